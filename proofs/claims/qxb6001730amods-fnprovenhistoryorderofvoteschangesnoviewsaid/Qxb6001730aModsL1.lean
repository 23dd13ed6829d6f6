import Derived.Test.Qxb6001730aModsSh1
import Derived.Test.Qxb6001730aModsBits
import Derived.Deep.RegionHeld3
import Derived.Deep.DrawnRows
namespace Go.Proofs.Qxb6001730aMods
open Go.RowKit
attribute [local go_sem ↓] Go.wp_at_zero Go.wp_at_succ

/-- What lies in memory once the groups are made: the local 'g' at block gl, the saving group at gb, the cloned participants at pb. -/
structure Lies (W : World) (gl gb pb n : Nat) (r : Value) (z : Nat → Int) : Prop where
  g0 : W.cell? ⟨gl, 0, none⟩ = some (.pointer (some ⟨gb, 0, none⟩))
  g1 : W.cell? ⟨gl, 1, none⟩ = some r
  g2 : W.cell? ⟨gl, 2, none⟩ = some (.slice none 0 0)
  h0 : W.cell? ⟨gb, 0, none⟩ = some (.slice (some ⟨pb, 0, none⟩) n n)
  h1 : W.cell? ⟨gb, 1, none⟩ = some (.slice none 0 0)
  ps : ∀ i, i < n → W.cell? ⟨pb, i, none⟩ = some (.int .i64 (z i))

theorem cell_on {W W' : World} (hb : Below W.heap.size W W') {p : Addr} {v : Value} (h : W.cell? p = some v) : W'.cell? p = some v :=
  (hb.cell (World.block_lt_of_cell? _ _ h)).trans h

theorem Lies.on {W W' : World} {gl gb pb n : Nat} {r : Value} {z : Nat → Int} (h : Lies W gl gb pb n r z) (hb : Below W.heap.size W W') : Lies W' gl gb pb n r z :=
  ⟨cell_on hb h.g0, cell_on hb h.g1, cell_on hb h.g2, cell_on hb h.h0, cell_on hb h.h1, fun i hi => cell_on hb (h.ps i hi)⟩

theorem lies_new {w2 w3 : World} {pb n : Nat} {r : Value} {z : Nat → Int} (hrow : w2.rowIs pb 3 n (fun i => .int .i64 (z i))) (hb3 : Below w2.heap.size w2 w3)
    (hg0 : w3.cell? ⟨w2.heap.size + 1, 0, none⟩ = some (.slice (some ⟨pb, 0, none⟩) n n)) (hg1 : w3.cell? ⟨w2.heap.size + 1, 1, none⟩ = some (.slice none 0 0)) :
    Lies (w3.alloc (.cells #[.pointer (some ⟨w2.heap.size + 1, 0, none⟩), r, .slice none 0 0] 31)) w3.heap.size (w2.heap.size + 1) pb n r z := by
  have hb : Below w3.heap.size w3 (w3.alloc (.cells #[.pointer (some ⟨w2.heap.size + 1, 0, none⟩), r, .slice none 0 0] 31)) := (Below.refl _ _).alloc (Nat.le_refl _) _
  exact ⟨by simp, by simp, by simp, cell_on hb hg0, cell_on hb hg1, fun i hi => cell_on hb (cell_on hb3 (hrow.cell hi))⟩

/-- Too short or too long: true at once. -/
theorem l1_empty (a : Option Addr) (c : Nat) (V s : Int) (w : World) :
    Calls Trym.prog 3 #[.slice a 0 c, .int .u64 V, .int .u64 s] w fun e w' => e = .returned (.bool true) ∧ Below w.heap.size w w' := by
  go_enter Trym.func3, Trym.ntmps3
  go_wp2_with (first | (go_at_call 9; refine (bytes9_yes _ _ _ _ _ _ (by omega)).mono ?_; rintro e w' ⟨rfl, rfl⟩))
  go_ret
  exact ⟨rfl, Below.refl _ _⟩

theorem l1_long (a : Option Addr) (n c : Nat) (V s : Int) (w : World) (hn : 4096 < n) :
    Calls Trym.prog 3 #[.slice a n c, .int .u64 V, .int .u64 s] w fun e w' => e = .returned (.bool true) ∧ Below w.heap.size w w' := by
  by_cases h1 : n ≤ 1048576
  · by_cases h2 : n ≤ 131072
    · go_enter Trym.func3, Trym.ntmps3
      go_wp2_with (first | (go_at_call 9; refine (bytes9_yes _ _ _ _ _ _ (by omega)).mono ?_; rintro e w' ⟨rfl, rfl⟩))
      go_ret
      exact ⟨rfl, Below.refl _ _⟩
    · go_enter Trym.func3, Trym.ntmps3
      go_wp2_with (first | (go_at_call 9; refine (bytes9_yes _ _ _ _ _ _ (by omega)).mono ?_; rintro e w' ⟨rfl, rfl⟩))
      go_ret
      exact ⟨rfl, Below.refl _ _⟩
  · go_enter Trym.func3, Trym.ntmps3
    go_wp2_with (first | (go_at_call 9; refine (bytes9_no _ _ _ _ _ _ (by omega)).mono ?_; rintro e w' ⟨rfl, rfl⟩))
    go_ret
    exact ⟨rfl, Below.refl _ _⟩

/-- Any participant, by its index. -/
theorem checks_any (gb pb n k s : Nat) (V : Int) (x y : Value) (z : Nat → Int) (w : World) (hn : n ≤ 1048576) (hk : k < n) (hs : s < 18446744073709551616)
    (hg : w.cell? ⟨gb, 0, none⟩ = some (.slice (some ⟨pb, 0, none⟩) n n)) (hc : ∀ i, i < n → w.cell? ⟨pb, i, none⟩ = some (.int .i64 (z i)))
    (hV : bits .and .u64 V 4294967295 = 0) (hd : ∀ p, p < n → ∀ q, q < p → z p ≠ z q) :
    Calls Trym.prog 13 #[.agg #[.pointer (some ⟨gb, 0, none⟩), x, y], .int .i64 (z k), .int .u64 V, .int .u64 s] w fun e w' => e = .returned (.bool (Pl.who n s k)) ∧ Below w.heap.size w w' := by
  cases k with
  | zero => exact checks_lead gb pb 0 n n V s (z 0) x y z w hn hk (fun i hi => by simpa using hc i hi) hg hV rfl
  | succ k =>
    obtain ⟨m, rfl⟩ : ∃ m, n = m + 1 := ⟨n - 1, by omega⟩
    have := checks_foll gb pb 0 m (m + 1) k s V (z (k + 1)) x y z w hn (by omega) hs (fun i hi => by simpa using hc i hi) hg hV rfl (fun q hq h => hd (k + 1) hk q hq h.symm)
    exact this

set_option maxHeartbeats 800000 in
theorem l1_main (b off n c V s : Nat) (z : Nat → Int) (w : World) (hn0 : 0 < n) (hn : n ≤ 4096) (hV : V < 18446744073709551616) (hs : s < 18446744073709551616)
    (hc : ∀ i, i < n → w.cell? ⟨b, off + i, none⟩ = some (.int .i64 (z i))) :
    Calls Trym.prog 3 #[.slice (some ⟨b, off, none⟩) n c, .int .u64 V, .int .u64 s] w fun e w' => e = .returned (.bool true) ∧ Below w.heap.size w w' := by
  have hbl : b < w.heap.size := World.block_lt_of_cell? _ _ (hc 0 hn0)
  have HC : Hid (∀ i, i < n → w.cell? ⟨b, off + i, none⟩ = some (.int .i64 (z i))) := hc
  clear hc
  have hne : ((n : Int) == 0) = false := by simp; omega
  have i0 : (0 : Int) < (n : Int) := by omega
  go_enter Trym.func3, Trym.ntmps3
  go_wp2_with (first | (go_at_call 9; refine (bytes9_yes _ _ _ _ _ _ (by omega)).mono ?_; rintro e w' ⟨rfl, rfl⟩))
  refine (distinct_any b off n c z _ (by omega) HC.out).mono ?_
  rintro e w1 ⟨⟨r, rfl, hr⟩, hb1⟩
  have HR : Hid (r = true → ∀ p, p < n → ∀ q, q < p → z p ≠ z q) := hr
  clear hr
  cases r
  · go_wp2
    go_ret
    exact ⟨rfl, hb1⟩
  go_wp2_with fail
  refine (clone_any b off n c z w1 (by omega) (fun i hi => (hb1.cell (p := ⟨b, off + i, none⟩) hbl).trans (HC.out i hi))).mono ?_
  rintro e w2 ⟨rfl, hrow, hb2⟩
  have HW : Hid (w2.rowIs w1.heap.size 3 n (fun i => .int .i64 (z i))) := hrow
  clear hrow
  go_wp2_with fail
  refine (groups_any _ _ _ _ _ _ _).mono ?_
  rintro e w3 ⟨rfl, hg0, hg1, hb3⟩
  have hV0 := saving_round V hV
  go_wp2
  have HL := lies_new (r := .slice none 0 0) HW.out hb3 hg0 hg1
  have HB : Below w'.heap.size w' (w3.alloc (.cells #[.pointer (some ⟨w2.heap.size + 1, 0, none⟩), .slice none 0 0, .slice none 0 0] 31)) :=
    ((hb1.trans (hb2.mono hb1.size)).trans (hb3.mono (Nat.le_trans hb1.size hb2.size))).alloc (Nat.le_trans (Nat.le_trans hb1.size hb2.size) hb3.size) _
  generalize w3.alloc (.cells #[.pointer (some ⟨w2.heap.size + 1, 0, none⟩), .slice none 0 0, .slice none 0 0] 31) = w4 at HL HB ⊢
  generalize w3.heap.size = gl at HL ⊢
  generalize w2.heap.size + 1 = gb at HL ⊢
  generalize w1.heap.size = pb at HL ⊢
  clear hg0 hg1 hb3 HW hb2 hb1 HC hbl
  clear w3 w2 w1
  have ⟨g0, g1, g2, _, _, _⟩ := HL
  have p0 := HL.ps 0 hn0
  have HL' : Hid (Lies w4.drew gl gb pb n (.slice none 0 0) z) := HL.on (Below.refl _ _).drew
  clear HL
  go_region_held3 (fun W => W.cell? ⟨gl, 0, none⟩ = some (.pointer (some ⟨gb, 0, none⟩)) ∧ W.cell? ⟨gl, 1, none⟩ = some (.slice none 0 0) ∧ W.cell? ⟨gl, 2, none⟩ = some (.slice none 0 0) ∧ W.cell? ⟨pb, 0, none⟩ = some (.int .i64 (z 0)))
    (go_keep)
    (first | (go_at_call 13; refine (checks_lead gb pb 0 n n _ _ _ _ _ z _ (by omega) hn0 (fun i hi => by simpa using HL'.out.ps i hi) HL'.out.h0 hV0 rfl).mono ?_; rintro e w5 ⟨rfl, hb5⟩; have k0 := cell_on hb5 HL'.out.g0; have k1 := cell_on hb5 HL'.out.g1; have k2 := cell_on hb5 HL'.out.g2; have k3 := cell_on hb5 (HL'.out.ps 0 hn0)))
  clear k0 k1 k2 k3 g0 g1 g2 p0
  have HL5 := HL'.out.on hb5
  have HB5 := HB.drew.trans (hb5.mono HB.size)
  clear hb5 HL' HB
  go_wp2
  go_loopw [8, 9] (fun ch i wr => ∃ k : Nat, k ≤ n ∧ i = .int .i64 k ∧ ch = .int .i64 (Pl.cnt (Pl.who n s) k : Nat) ∧ Lies wr gl gb pb n (.slice none 0 0) z ∧ Below w'.heap.size w' wr) (fun _ i _ => n - (intOf i).toNat)
  case atStart => exact ⟨0, Nat.zero_le _, rfl, rfl, HL5, HB5⟩
  case round =>
    obtain ⟨k, hk, rfl, rfl, HLr, HBr⟩ := hrel
    have hle := Pl.cnt_le (Pl.who n s) k
    clear HL5 HB5
    by_cases hlt : k < n
    · go_wp2
      have i1 : (k : Int) < (n : Int) := by omega
      have ⟨g0, g1, g2, _, _, _⟩ := HLr
      have p0 := HLr.ps k hlt
      have HL' : Hid (Lies wr.drew gl gb pb n (.slice none 0 0) z) := HLr.on (Below.refl _ _).drew
      clear HLr
      go_region_held3 (fun W => W.cell? ⟨gl, 0, none⟩ = some (.pointer (some ⟨gb, 0, none⟩)) ∧ W.cell? ⟨gl, 1, none⟩ = some (.slice none 0 0) ∧ W.cell? ⟨gl, 2, none⟩ = some (.slice none 0 0) ∧ W.cell? ⟨pb, k, none⟩ = some (.int .i64 (z k)))
        (go_keep)
        (first | (go_at_call 13; refine (checks_any gb pb n k s _ _ _ z wr.drew (by omega) hlt hs HL'.out.h0 HL'.out.ps hV0 (HR.out trivial)).mono ?_; rintro e w5 ⟨rfl, hb5⟩; have k0 := cell_on hb5 HL'.out.g0; have k1 := cell_on hb5 HL'.out.g1; have k2 := cell_on hb5 HL'.out.g2; have k3 := cell_on hb5 (HL'.out.ps k hlt)))
      clear k0 k1 k2 k3 g0 g1 g2 p0
      have HLw := HL'.out.on hb5
      have HBw := HBr.drew.trans (hb5.mono HBr.size)
      clear hb5 HL' HBr
      have hsu : Hid (Pl.cnt (Pl.who n s) (k + 1) = Pl.cnt (Pl.who n s) k + if Pl.who n s k then 1 else 0) := rfl
      cases hw : Pl.who n s k
      · have HWH : Hid (Pl.who n s k = false) := hw
        go_wp2
        go_roundw
        case rel => exact ⟨k + 1, by omega, by go_num, by rw [hsu.out, HWH.out]; rfl, HLw, HBw⟩
        case measure => simp [intOf]; omega
      · have HWH : Hid (Pl.who n s k = true) := hw
        go_wp2
        go_roundw
        case rel => exact ⟨k + 1, by omega, by go_num, by rw [hsu.out, HWH.out]; go_num, HLw, HBw⟩
        case measure => simp [intOf]; omega
    · have ek : k = n := by omega
      subst ek
      have hct := Pl.who_count k s hn0
      have HCT : Hid (Pl.cnt (Pl.who k s) k = 1 + (k - 1) / 2) := hct
      clear hct
      go_wp2
      go_ret
      exact ⟨ret_bool (by simp only [HCT.out]; simp; omega), HBr⟩

end Go.Proofs.Qxb6001730aMods
