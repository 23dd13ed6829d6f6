import Derived.Test.Qxb6001730aModsL3
namespace Go.Proofs.Qxb6001730aMods
open Go.RowKit

theorem bytes18_yes (a a' : Option Addr) (n c n' c' : Nat) (x x' : Int) (w : World) (h : n + n' ≤ 1048576) :
    Calls Trym.prog 18 #[.slice a n c, .slice a' n' c', .int .u64 x, .int .u64 x'] w fun e w' => e = .returned (.bool true) ∧ w' = w := by
  go_enter Trym.func18, Trym.ntmps18
  go_wp2
  go_ret
  exact ⟨rfl, rfl⟩

theorem bytes18_no (a a' : Option Addr) (n c n' c' : Nat) (x x' : Int) (w : World) (h : 1048576 < n + n') :
    Calls Trym.prog 18 #[.slice a n c, .slice a' n' c', .int .u64 x, .int .u64 x'] w fun e w' => e = .returned (.bool false) ∧ w' = w := by
  by_cases h1 : n ≤ 1048576
  · by_cases h2 : n' ≤ 1048576
    · go_enter Trym.func18, Trym.ntmps18
      go_wp2
      go_ret
      exact ⟨rfl, rfl⟩
    · go_enter Trym.func18, Trym.ntmps18
      go_wp2
      go_ret
      exact ⟨rfl, rfl⟩
  · go_enter Trym.func18, Trym.ntmps18
    go_wp2
    go_ret
    exact ⟨rfl, rfl⟩

/-- One of the function's own bounds says no: true at once. -/
theorem l4_early (a a' : Option Addr) (n c n' c' : Nat) (F O : Int) (w : World) (h : 65536 < n ∨ 65536 < n' ∨ n = 0 ∨ n' = 0 ∨ 131072 < n + n') :
    Calls Trym.prog 6 #[.slice a n c, .slice a' n' c', .int .u64 F, .int .u64 O] w fun e w' => e = .returned (.bool true) ∧ Below w.heap.size w w' := by
  by_cases hb : 1048576 < n + n'
  · go_enter Trym.func6, Trym.ntmps6
    go_wp2_with (first | (go_at_call 18; refine (bytes18_no _ _ _ _ _ _ _ _ _ (by omega)).mono ?_; rintro e w' ⟨rfl, rfl⟩))
    go_ret
    exact ⟨rfl, Below.refl _ _⟩
  by_cases c1 : 131072 < n
  · have d1 : decide (131072 < (n : Int)) = true := decide_eq_true (by omega)
    go_enter Trym.func6, Trym.ntmps6
    go_wp2_with (first | (go_at_call 18; refine (bytes18_yes _ _ _ _ _ _ _ _ _ (by omega)).mono ?_; rintro e w' ⟨rfl, rfl⟩))
    go_ret
    exact ⟨rfl, Below.refl _ _⟩
  have d1 : decide (131072 < (n : Int)) = false := decide_eq_false (by omega)
  by_cases c2 : 131072 < n'
  · have d2 : decide (131072 < (n' : Int)) = true := decide_eq_true (by omega)
    go_enter Trym.func6, Trym.ntmps6
    go_wp2_with (first | (go_at_call 18; refine (bytes18_yes _ _ _ _ _ _ _ _ _ (by omega)).mono ?_; rintro e w' ⟨rfl, rfl⟩))
    go_ret
    exact ⟨rfl, Below.refl _ _⟩
  have d2 : decide (131072 < (n' : Int)) = false := decide_eq_false (by omega)
  by_cases c3 : 131072 < n + n'
  · have d3 : decide (1048576 < 8 * (n : Int) + 8 * (n' : Int)) = true := decide_eq_true (by omega)
    go_enter Trym.func6, Trym.ntmps6
    go_wp2_with (first | (go_at_call 18; refine (bytes18_yes _ _ _ _ _ _ _ _ _ (by omega)).mono ?_; rintro e w' ⟨rfl, rfl⟩))
    go_ret
    exact ⟨rfl, Below.refl _ _⟩
  have d3 : decide (1048576 < 8 * (n : Int) + 8 * (n' : Int)) = false := decide_eq_false (by omega)
  by_cases c4 : 65536 < n
  · have d4 : decide (65536 < (n : Int)) = true := decide_eq_true (by omega)
    go_enter Trym.func6, Trym.ntmps6
    go_wp2_with (first | (go_at_call 18; refine (bytes18_yes _ _ _ _ _ _ _ _ _ (by omega)).mono ?_; rintro e w' ⟨rfl, rfl⟩))
    go_ret
    exact ⟨rfl, Below.refl _ _⟩
  have d4 : decide (65536 < (n : Int)) = false := decide_eq_false (by omega)
  by_cases c5 : 65536 < n'
  · have d5 : decide (65536 < (n' : Int)) = true := decide_eq_true (by omega)
    go_enter Trym.func6, Trym.ntmps6
    go_wp2_with (first | (go_at_call 18; refine (bytes18_yes _ _ _ _ _ _ _ _ _ (by omega)).mono ?_; rintro e w' ⟨rfl, rfl⟩))
    go_ret
    exact ⟨rfl, Below.refl _ _⟩
  have d5 : decide (65536 < (n' : Int)) = false := decide_eq_false (by omega)
  by_cases c6 : n = 0
  · have d6 : ((n : Int) == 0) = true := by simp; omega
    clear h c6
    go_enter Trym.func6, Trym.ntmps6
    go_wp2_with (first | (go_at_call 18; refine (bytes18_yes _ _ _ _ _ _ _ _ _ (by omega)).mono ?_; rintro e w' ⟨rfl, rfl⟩))
    go_ret
    exact ⟨rfl, Below.refl _ _⟩
  have d6 : ((n : Int) == 0) = false := by simp; omega
  have d7 : ((n' : Int) == 0) = true := by simp; omega
  clear h c6
  go_enter Trym.func6, Trym.ntmps6
  go_wp2_with (first | (go_at_call 18; refine (bytes18_yes _ _ _ _ _ _ _ _ _ (by omega)).mono ?_; rintro e w' ⟨rfl, rfl⟩))
  go_ret
  exact ⟨rfl, Below.refl _ _⟩

theorem first_exists (y : Nat → Int) (v : Int) (n : Nat) (hn : 0 < n) : ∃ W, FirstAt y v n 0 W := by
  have : ∀ d, d < n → ∃ W, FirstAt y v n (n - 1 - d) W := by
    intro d
    induction d with
    | zero => intro _; exact ⟨n, by omega, Nat.le_refl _, fun h => absurd h (Nat.lt_irrefl _), fun q h1 h2 => by omega⟩
    | succ d ih =>
      intro hd
      obtain ⟨W, h1, h2, h3, h4⟩ := ih (by omega)
      by_cases e : y (n - 1 - d) = v
      · exact ⟨n - 1 - d, by omega, by omega, fun _ => e, fun q hq1 hq2 => by omega⟩
      · refine ⟨W, by omega, h2, h3, fun q hq1 hq2 => ?_⟩
        by_cases eq : q = n - 1 - d
        · subst eq; exact e
        · exact h4 q (by omega) hq2
  have h := this (n - 1) (by omega)
  rwa [Nat.sub_self] at h

theorem g_eq (F O R G F2 : Nat) (h1 : F / 4294967296 * 4294967296 + R = G) (h2 : F2 = F / 4294967296 * 4294967296 + O % 4294967296) : F2 / 4294967296 * 4294967296 + R = G := by
  have hr : O % 4294967296 < 4294967296 := Nat.mod_lt _ (by decide)
  generalize O % 4294967296 = r at h2 hr
  generalize F / 4294967296 = q at h1 h2
  have e : F2 / 4294967296 = q := by
    rw [h2, Nat.mul_comm, Nat.mul_add_div (by decide), Nat.div_eq_of_lt hr, Nat.add_zero]
  rw [e, h1]

theorem lies_new' {w2 w3 : World} {pb n : Nat} {r : Value} {z : Nat → Int} (hps : ∀ i, i < n → w2.cell? ⟨pb, i, none⟩ = some (.int .i64 (z i))) (hb3 : Below w2.heap.size w2 w3)
    (hg0 : w3.cell? ⟨w2.heap.size + 1, 0, none⟩ = some (.slice (some ⟨pb, 0, none⟩) n n)) (hg1 : w3.cell? ⟨w2.heap.size + 1, 1, none⟩ = some (.slice none 0 0)) :
    Lies (w3.alloc (.cells #[.pointer (some ⟨w2.heap.size + 1, 0, none⟩), r, .slice none 0 0] 31)) w3.heap.size (w2.heap.size + 1) pb n r z := by
  have hb : Below w3.heap.size w3 (w3.alloc (.cells #[.pointer (some ⟨w2.heap.size + 1, 0, none⟩), r, .slice none 0 0] 31)) := (Below.refl _ _).alloc (Nat.le_refl _) _
  exact ⟨by simp, by simp, by simp, cell_on hb hg0, cell_on hb hg1, fun i hi => cell_on hb (cell_on hb3 (hps i hi))⟩

theorem mode_resilient (gb : Addr) (V : Int) (x y : Value) (w : World) (hV : (bits .and .u64 V 4294967295 == 0) = false) :
    Calls Trym.prog 19 #[.agg #[.pointer (some gb), x, y], .int .u64 V] w fun e w' => e = .returned (.string ⟨#[114, 101, 115, 105, 108, 105, 101, 110, 116]⟩) ∧ w' = w.alloc (.cells #[.pointer (some gb), x, y] 31) := by
  go_enter Trym.func19, Trym.ntmps19
  go_wp2_with (first | (go_at_call 33; refine (round_any _ _).mono ?_; rintro e w' ⟨rfl, rfl⟩))
  go_ret
  exact ⟨rfl, rfl⟩

theorem switch_to (gb pb np cp rb n c R F' G : Nat) (F : Int) (z y : Nat → Int) (w : World) (hnp : np ≤ 1048576) (hn : n ≤ 65536) (hnp0 : 0 < np) (hn0 : 0 < n) (hF' : F' < 18446744073709551616)
    (hF : F = (F' : Int)) (hG : F' / 4294967296 * 4294967296 + R = G)
    (hg0 : w.cell? ⟨gb, 0, none⟩ = some (.slice (some ⟨pb, 0, none⟩) np cp)) (hg1 : w.cell? ⟨gb, 1, none⟩ = some (.slice none 0 0))
    (hz : ∀ i, i < np → w.cell? ⟨pb, i, none⟩ = some (.int .i64 (z i))) (hy : ∀ i, i < n → w.cell? ⟨rb, i, none⟩ = some (.int .i64 (y i)))
    (hR1 : 1 ≤ R) (hR2 : R ≤ n) (hR3 : y (R % n) = z 0) (hR4 : ∀ q, 1 ≤ q → q < R → y (q % n) ≠ z 0) :
    Calls Trym.prog 17 #[.agg #[.pointer (some ⟨gb, 0, none⟩), .slice (some ⟨rb, 0, none⟩) n c, .slice none 0 0], .int .u64 F] w
      fun e w' => e = .returned (.int .u64 (G : Int)) ∧ Below w.heap.size w w' := by
  subst hF hG
  exact switch_any gb pb np cp rb n c F' R z y w hnp hn hnp0 hn0 hF' hg0 hg1 hz hy hR1 hR2 hR3 hR4

set_option maxHeartbeats 800000 in
theorem l4_main (b off n c b' off' n' c' F O : Nat) (z y : Nat → Int) (w : World) (hn0 : 0 < n) (hn0' : 0 < n') (hn : n ≤ 65536) (hn' : n' ≤ 65536) (hnn : n + n' ≤ 131072) (hF : F < 18446744073709551616) (hO : O < 18446744073709551616)
    (hc : ∀ i, i < n → w.cell? ⟨b, off + i, none⟩ = some (.int .i64 (z i))) (hc' : ∀ i, i < n' → w.cell? ⟨b', off' + i, none⟩ = some (.int .i64 (y i))) :
    Calls Trym.prog 6 #[.slice (some ⟨b, off, none⟩) n c, .slice (some ⟨b', off', none⟩) n' c', .int .u64 F, .int .u64 O] w fun e w' => e = .returned (.bool true) ∧ Below w.heap.size w w' := by
  have d1 : decide (131072 < (n : Int)) = false := decide_eq_false (by omega)
  have d2 : decide (131072 < (n' : Int)) = false := decide_eq_false (by omega)
  have d3 : decide (1048576 < 8 * (n : Int) + 8 * (n' : Int)) = false := decide_eq_false (by omega)
  have d4 : decide (65536 < (n : Int)) = false := decide_eq_false (by omega)
  have d5 : decide (65536 < (n' : Int)) = false := decide_eq_false (by omega)
  have d6 : ((n : Int) == 0) = false := by simp; omega
  have d7 : ((n' : Int) == 0) = false := by simp; omega
  have c0 : w.cell? ⟨b, off, none⟩ = some (.int .i64 (z 0)) := by simpa using hc 0 hn0
  have i0 : (0 : Int) < (n : Int) := by omega
  have HC : Hid (∀ i, i < n → w.cell? ⟨b, off + i, none⟩ = some (.int .i64 (z i))) := hc
  have HC' : Hid (∀ i, i < n' → w.cell? ⟨b', off' + i, none⟩ = some (.int .i64 (y i))) := hc'
  clear hc hc'
  go_enter Trym.func6, Trym.ntmps6
  go_wp2_with (first | (go_at_call 18; refine (bytes18_yes _ _ _ _ _ _ _ _ _ (by omega)).mono ?_; rintro e w' ⟨rfl, rfl⟩))
  refine (contains_any b' off' n' c' (z 0) y _ (by omega) HC'.out).mono ?_
  rintro e w1 ⟨⟨r, rfl, hr⟩, hb1⟩
  have HR : Hid (r = true → ∃ j, j < n' ∧ y j = z 0) := hr
  clear hr
  cases r
  · go_wp2
    go_ret
    exact ⟨rfl, hb1⟩
  clear d1 d2 d3 d4 d5 d6 d7
  go_wp2_with fail
  refine (clone_any b off n c z w1 (by omega) (fun i hi => cell_on hb1 (HC.out i hi))).mono ?_
  rintro e w2 ⟨rfl, hrow, hb2⟩
  have HW : Hid (w2.rowIs w1.heap.size 3 n (fun i => .int .i64 (z i))) := hrow
  clear hrow
  go_wp2_with fail
  refine (clone_any b' off' n' c' y w2 (by omega) (fun i hi => cell_on hb2 (cell_on hb1 (HC'.out i hi)))).mono ?_
  rintro e w3 ⟨rfl, hrow, hb3⟩
  have HY : Hid (∀ i, i < n' → w3.cell? ⟨w2.heap.size, i, none⟩ = some (.int .i64 (y i))) := fun i hi => hrow.cell hi
  have HZ : Hid (∀ i, i < n → w3.cell? ⟨w1.heap.size, i, none⟩ = some (.int .i64 (z i))) := fun i hi => cell_on hb3 (HW.out.cell hi)
  have HB : Below _ _ w3 := (hb1.trans (hb2.mono hb1.size)).trans (hb3.mono (Nat.le_trans hb1.size hb2.size))
  clear hrow hb3 HW hb2 hb1 HC HC' c0
  generalize w1.heap.size = pb at HZ ⊢
  generalize w2.heap.size = rb at HY ⊢
  clear w1 w2
  obtain ⟨R, hf⟩ := first_exists y (z 0) n' hn0'
  have hR1 := hf.1
  have hR2 := hf.2.1
  have hfr : Hid (y (R % n') = z 0 ∧ ∀ q, 1 ≤ q → q < R → y (q % n') ≠ z 0) := first_round hf (HR.out trivial)
  clear hf HR
  obtain ⟨SV, hSV, hSVd⟩ : ∃ SV : Nat, bits .andNot .u64 (F : Int) 4294967295 = (SV : Int) ∧ Hid (SV = F / 4294967296 * 4294967296) := ⟨_, bits_high F hF, rfl⟩
  obtain ⟨OL, hOL, hOLd⟩ : ∃ OL : Nat, bits .and .u64 (O : Int) 4294967295 = (OL : Int) ∧ Hid (OL = O % 4294967296) := ⟨_, bits_low O hO, rfl⟩
  obtain ⟨F2, hF2, hF2d⟩ : ∃ F2 : Nat, bits .or .u64 (SV : Int) (OL : Int) = (F2 : Int) ∧ Hid (F2 = F / 4294967296 * 4294967296 + O % 4294967296) :=
    ⟨_, by rw [hSVd.out, hOLd.out]; exact bits_or (F / 4294967296) (O % 4294967296) (by omega) (by omega), rfl⟩
  obtain ⟨G, hGd⟩ : ∃ G : Nat, Hid (F / 4294967296 * 4294967296 + R = G) := ⟨_, rfl⟩
  have hGb : SV < G := by have := hGd.out; have := hSVd.out; omega
  have hGl : G < 18446744073709551616 := by have := hGd.out; omega
  have hS0 : bits .and .u64 (SV : Int) 4294967295 = 0 := by rw [hSVd.out, bits_low _ (by omega)]; omega
  have hG0 : Hid ((bits .and .u64 (G : Int) 4294967295 == 0) = false) := by
    have h1 := hGd.out
    show (bits .and .u64 (G : Int) 4294967295 == 0) = false
    rw [bits_low _ (by omega)]; rw [beq_eq_false_iff_ne]; omega
  have HG2 : Hid (F2 / 4294967296 * 4294967296 + R = G) := g_eq F O R G F2 hGd.out hF2d.out
  have hF2l : F2 < 18446744073709551616 := by have h2 := hF2d.out; omega
  go_wp2_with fail
  refine (groups_any _ _ _ _ _ _ _).mono ?_
  rintro e w4 ⟨rfl, hg0, hg1, hb4⟩
  have HL := lies_new' (r := .slice (some ⟨rb, 0, none⟩) n' n') HZ.out hb4 hg0 hg1
  have HB5 : Below w'.heap.size w' (w4.alloc (.cells #[.pointer (some ⟨w3.heap.size + 1, 0, none⟩), .slice (some ⟨rb, 0, none⟩) n' n', .slice none 0 0] 31)) := (HB.trans (hb4.mono HB.size)).alloc (Nat.le_trans HB.size hb4.size) _
  have HY5 : Hid (∀ i, i < n' → (w4.alloc (.cells #[.pointer (some ⟨w3.heap.size + 1, 0, none⟩), .slice (some ⟨rb, 0, none⟩) n' n', .slice none 0 0] 31)).cell? ⟨rb, i, none⟩ = some (.int .i64 (y i))) :=
    fun i hi => cell_on ((Below.refl _ _).alloc (Nat.le_refl _) _) (cell_on hb4 (HY.out i hi))
  go_wp2_with fail
  generalize w4.alloc (.cells #[.pointer (some ⟨w3.heap.size + 1, 0, none⟩), .slice (some ⟨rb, 0, none⟩) n' n', .slice none 0 0] 31) = w5 at HL HB5 HY5 ⊢
  generalize w4.heap.size = gl at HL ⊢
  generalize w3.heap.size + 1 = gb at HL ⊢
  clear hg0 hg1 hb4 HZ HY HB w4 w3
  have HL' : Hid (Lies w5 gl gb pb n (.slice (some ⟨rb, 0, none⟩) n' n') z) := HL
  clear HL
  refine (switch_to gb pb n n rb n' n' R F G _ z y w5 (by omega) hn' hn0 hn0' hF rfl hGd.out HL'.out.h0 HL'.out.h1 HL'.out.ps HY5.out hR1 hR2 hfr.out.1 hfr.out.2).mono ?_
  rintro e w6 ⟨rfl, hb6⟩
  have HL6 : Hid (Lies w6 gl gb pb n (.slice (some ⟨rb, 0, none⟩) n' n') z) := HL'.out.on hb6
  have HY6 : Hid (∀ i, i < n' → w6.cell? ⟨rb, i, none⟩ = some (.int .i64 (y i))) := fun i hi => cell_on hb6 (HY5.out i hi)
  have HB6 := HB5.trans (hb6.mono HB5.size)
  clear hb6 HB5 HL' HY5
  have k0 := HL6.out.g0
  have k1 := HL6.out.g1
  have k2 := HL6.out.g2
  go_wp2_with fail
  refine (switch_to gb pb n n rb n' n' R F2 G _ z y w6 (by omega) hn' hn0 hn0' hF2l rfl HG2.out HL6.out.h0 HL6.out.h1 HL6.out.ps HY6.out hR1 hR2 hfr.out.1 hfr.out.2).mono ?_
  rintro e w7 ⟨rfl, hb7⟩
  have HL7 : Hid (Lies w7 gl gb pb n (.slice (some ⟨rb, 0, none⟩) n' n') z) := HL6.out.on hb7
  have HB7 := HB6.trans (hb7.mono HB6.size)
  clear k0 k1 k2 hb7 HB6 HL6 HY6 hfr
  have k0 := HL7.out.g0
  have k1 := HL7.out.g1
  have k2 := HL7.out.g2
  have hgl : gl < w7.heap.size := World.block_lt_of_cell? _ _ k0
  have dG : decide ((SV : Int) < (G : Int)) = true := decide_eq_true (by omega)
  go_wp2_with fail
  refine (mode_resilient _ _ _ _ _ hG0.out).mono ?_
  rintro e w8 ⟨rfl, rfl⟩
  go_wp2_with fail
  refine (mode_saving _ _ _ _ _ hS0).mono ?_
  rintro e w9 ⟨rfl, rfl⟩
  go_wp2
  go_ret
  exact ⟨rfl, (HB7.alloc HB7.size _).alloc (Nat.le_trans HB7.size (by simp)) _⟩

end Go.Proofs.Qxb6001730aMods
