import Derived.Test.Qxb6001730aModsSh2
namespace Go.Proofs.Qxb6001730aMods
open Go.RowKit

theorem bytes15_yes (a a' : Option Addr) (n c n' c' : Nat) (x : Int) (w : World) (h : n + n' ≤ 1048576) :
    Calls Trym.prog 15 #[.slice a n c, .slice a' n' c', .int .u64 x] w fun e w' => e = .returned (.bool true) ∧ w' = w := by
  go_enter Trym.func15, Trym.ntmps15
  go_wp2
  go_ret
  exact ⟨rfl, rfl⟩

theorem bytes15_no (a a' : Option Addr) (n c n' c' : Nat) (x : Int) (w : World) (h : 1048576 < n + n') :
    Calls Trym.prog 15 #[.slice a n c, .slice a' n' c', .int .u64 x] w fun e w' => e = .returned (.bool false) ∧ w' = w := by
  by_cases h1 : n ≤ 1048576
  · by_cases h2 : n' ≤ 1048576
    · go_enter Trym.func15, Trym.ntmps15
      go_wp2
      go_ret
      exact ⟨rfl, rfl⟩
    · go_enter Trym.func15, Trym.ntmps15
      go_wp2
      go_ret
      exact ⟨rfl, rfl⟩
  · go_enter Trym.func15, Trym.ntmps15
    go_wp2
    go_ret
    exact ⟨rfl, rfl⟩

/-- One of the function's own bounds says no: true at once. -/
theorem l3_early (a a' : Option Addr) (n c n' c' : Nat) (F : Int) (w : World) (h : 65536 < n ∨ 65536 < n' ∨ n = 0 ∨ n' = 0 ∨ 131072 < n + n') :
    Calls Trym.prog 5 #[.slice a n c, .slice a' n' c', .int .u64 F] w fun e w' => e = .returned (.bool true) ∧ Below w.heap.size w w' := by
  by_cases hb : 1048576 < n + n'
  · go_enter Trym.func5, Trym.ntmps5
    go_wp2_with (first | (go_at_call 15; refine (bytes15_no _ _ _ _ _ _ _ _ (by omega)).mono ?_; rintro e w' ⟨rfl, rfl⟩))
    go_ret
    exact ⟨rfl, Below.refl _ _⟩
  by_cases c1 : 131072 < n
  · have d1 : decide (131072 < (n : Int)) = true := decide_eq_true (by omega)
    go_enter Trym.func5, Trym.ntmps5
    go_wp2_with (first | (go_at_call 15; refine (bytes15_yes _ _ _ _ _ _ _ _ (by omega)).mono ?_; rintro e w' ⟨rfl, rfl⟩))
    go_ret
    exact ⟨rfl, Below.refl _ _⟩
  have d1 : decide (131072 < (n : Int)) = false := decide_eq_false (by omega)
  by_cases c2 : 131072 < n'
  · have d2 : decide (131072 < (n' : Int)) = true := decide_eq_true (by omega)
    go_enter Trym.func5, Trym.ntmps5
    go_wp2_with (first | (go_at_call 15; refine (bytes15_yes _ _ _ _ _ _ _ _ (by omega)).mono ?_; rintro e w' ⟨rfl, rfl⟩))
    go_ret
    exact ⟨rfl, Below.refl _ _⟩
  have d2 : decide (131072 < (n' : Int)) = false := decide_eq_false (by omega)
  by_cases c3 : 131072 < n + n'
  · have d3 : decide (1048576 < 8 * (n : Int) + 8 * (n' : Int)) = true := decide_eq_true (by omega)
    go_enter Trym.func5, Trym.ntmps5
    go_wp2_with (first | (go_at_call 15; refine (bytes15_yes _ _ _ _ _ _ _ _ (by omega)).mono ?_; rintro e w' ⟨rfl, rfl⟩))
    go_ret
    exact ⟨rfl, Below.refl _ _⟩
  have d3 : decide (1048576 < 8 * (n : Int) + 8 * (n' : Int)) = false := decide_eq_false (by omega)
  by_cases c4 : 65536 < n
  · have d4 : decide (65536 < (n : Int)) = true := decide_eq_true (by omega)
    go_enter Trym.func5, Trym.ntmps5
    go_wp2_with (first | (go_at_call 15; refine (bytes15_yes _ _ _ _ _ _ _ _ (by omega)).mono ?_; rintro e w' ⟨rfl, rfl⟩))
    go_ret
    exact ⟨rfl, Below.refl _ _⟩
  have d4 : decide (65536 < (n : Int)) = false := decide_eq_false (by omega)
  by_cases c5 : 65536 < n'
  · have d5 : decide (65536 < (n' : Int)) = true := decide_eq_true (by omega)
    go_enter Trym.func5, Trym.ntmps5
    go_wp2_with (first | (go_at_call 15; refine (bytes15_yes _ _ _ _ _ _ _ _ (by omega)).mono ?_; rintro e w' ⟨rfl, rfl⟩))
    go_ret
    exact ⟨rfl, Below.refl _ _⟩
  have d5 : decide (65536 < (n' : Int)) = false := decide_eq_false (by omega)
  by_cases c6 : n = 0
  · have d6 : ((n : Int) == 0) = true := by simp; omega
    clear h c6
    go_enter Trym.func5, Trym.ntmps5
    go_wp2_with (first | (go_at_call 15; refine (bytes15_yes _ _ _ _ _ _ _ _ (by omega)).mono ?_; rintro e w' ⟨rfl, rfl⟩))
    go_ret
    exact ⟨rfl, Below.refl _ _⟩
  have d6 : ((n : Int) == 0) = false := by simp; omega
  have d7 : ((n' : Int) == 0) = true := by simp; omega
  clear h c6
  go_enter Trym.func5, Trym.ntmps5
  go_wp2_with (first | (go_at_call 15; refine (bytes15_yes _ _ _ _ _ _ _ _ (by omega)).mono ?_; rintro e w' ⟨rfl, rfl⟩))
  go_ret
  exact ⟨rfl, Below.refl _ _⟩

/-- The round: the first index W from k + 1 on at which y says v, or n. -/
def FirstAt (y : Nat → Int) (v : Int) (n k W : Nat) : Prop := k < W ∧ W ≤ n ∧ (W < n → y W = v) ∧ ∀ q, k < q → q < W → y q ≠ v

theorem first_round {y : Nat → Int} {v : Int} {n W : Nat} (h : FirstAt y v n 0 W) (hj : ∃ j, j < n ∧ y j = v) : y (W % n) = v ∧ ∀ q, 1 ≤ q → q < W → y (q % n) ≠ v := by
  obtain ⟨h1, h2, h3, h4⟩ := h
  refine ⟨?_, fun q hq hqW => by rw [Nat.mod_eq_of_lt (by omega)]; exact h4 q (by omega) hqW⟩
  by_cases e : W = n
  · subst e
    rw [Nat.mod_self]
    obtain ⟨j, hj1, hj2⟩ := hj
    by_cases e0 : j = 0
    · rw [← e0]; exact hj2
    · exact absurd hj2 (h4 j (by omega) hj1)
  · rw [Nat.mod_eq_of_lt (by omega)]; exact h3 (by omega)

set_option maxHeartbeats 800000 in
theorem l3_main (b off n c b' off' n' c' F : Nat) (z y : Nat → Int) (w : World) (hn0 : 0 < n) (hn0' : 0 < n') (hn : n ≤ 65536) (hn' : n' ≤ 65536) (hnn : n + n' ≤ 131072) (hF : F < 18446744073709551616)
    (hc : ∀ i, i < n → w.cell? ⟨b, off + i, none⟩ = some (.int .i64 (z i))) (hc' : ∀ i, i < n' → w.cell? ⟨b', off' + i, none⟩ = some (.int .i64 (y i))) :
    Calls Trym.prog 5 #[.slice (some ⟨b, off, none⟩) n c, .slice (some ⟨b', off', none⟩) n' c', .int .u64 F] w fun e w' => e = .returned (.bool true) ∧ Below w.heap.size w w' := by
  have d1 : decide (131072 < (n : Int)) = false := decide_eq_false (by omega)
  have d2 : decide (131072 < (n' : Int)) = false := decide_eq_false (by omega)
  have d3 : decide (1048576 < 8 * (n : Int) + 8 * (n' : Int)) = false := decide_eq_false (by omega)
  have d4 : decide (65536 < (n : Int)) = false := decide_eq_false (by omega)
  have d5 : decide (65536 < (n' : Int)) = false := decide_eq_false (by omega)
  have d6 : ((n : Int) == 0) = false := by simp; omega
  have d7 : ((n' : Int) == 0) = false := by simp; omega
  have c0 : w.cell? ⟨b, off, none⟩ = some (.int .i64 (z 0)) := by simpa using hc 0 hn0
  have i0 : (0 : Int) < (n : Int) := by omega
  have HC : Hid (∀ i, i < n → w.cell? ⟨b, off + i, none⟩ = some (.int .i64 (z i))) := hc
  have HC' : Hid (∀ i, i < n' → w.cell? ⟨b', off' + i, none⟩ = some (.int .i64 (y i))) := hc'
  clear hc hc'
  go_enter Trym.func5, Trym.ntmps5
  go_wp2_with (first | (go_at_call 15; refine (bytes15_yes _ _ _ _ _ _ _ _ (by omega)).mono ?_; rintro e w' ⟨rfl, rfl⟩))
  refine (contains_any b' off' n' c' (z 0) y _ (by omega) HC'.out).mono ?_
  rintro e w1 ⟨⟨r, rfl, hr⟩, hb1⟩
  have HR : Hid (r = true → ∃ j, j < n' ∧ y j = z 0) := hr
  clear hr
  cases r
  · go_wp2
    go_ret
    exact ⟨rfl, hb1⟩
  clear d1 d2 d3 d4 d5 d6 d7
  go_wp2_with fail
  refine (clone_any b off n c z w1 (by omega) (fun i hi => cell_on hb1 (HC.out i hi))).mono ?_
  rintro e w2 ⟨rfl, hrow, hb2⟩
  have HW : Hid (w2.rowIs w1.heap.size 3 n (fun i => .int .i64 (z i))) := hrow
  clear hrow
  go_wp2_with fail
  refine (clone_any b' off' n' c' y w2 (by omega) (fun i hi => cell_on hb2 (cell_on hb1 (HC'.out i hi)))).mono ?_
  rintro e w3 ⟨rfl, hrow, hb3⟩
  have HY : Hid (∀ i, i < n' → w3.cell? ⟨w2.heap.size, i, none⟩ = some (.int .i64 (y i))) := fun i hi => hrow.cell hi
  have HZ : Hid (∀ i, i < n → w3.cell? ⟨w1.heap.size, i, none⟩ = some (.int .i64 (z i))) := fun i hi => cell_on hb3 (HW.out.cell hi)
  have HB : Below _ _ w3 := (hb1.trans (hb2.mono hb1.size)).trans (hb3.mono (Nat.le_trans hb1.size hb2.size))
  clear hrow hb3 HW hb2 hb1 HC HC' c0
  generalize w1.heap.size = pb at HZ ⊢
  generalize w2.heap.size = rb at HY ⊢
  clear w1 w2
  have p0 := HZ.out 0 hn0
  go_wp2
  go_loop [8, 9] (fun t i => ∃ k W : Nat, k < n' ∧ i = .int .i64 k ∧ t = .int .i64 W ∧ FirstAt y (z 0) n' k W) (fun _ i => (intOf i).toNat)
  case atStart => exact ⟨n' - 1, n', by omega, by go_num, rfl, ⟨by omega, Nat.le_refl _, fun h => absurd h (Nat.lt_irrefl _), fun q h1 h2 => by omega⟩⟩
  case round =>
    obtain ⟨k, W, hk, rfl, rfl, hf⟩ := hrel
    have HF : Hid (FirstAt y (z 0) n' k W) := hf
    clear hf
    by_cases hlt : 1 ≤ k
    · have c1 := HY.out k hk
      have i1 : (k : Int) < (n' : Int) := by omega
      by_cases e : y k = z 0
      · have e1 : (y k == z 0) = true := by simp [e]
        have E : Hid (y k = z 0) := e
        clear e
        go_wp2
        go_round
        case rel => exact ⟨k - 1, k, by omega, by go_num, rfl, ⟨by omega, by omega, fun _ => E.out, fun q h1 h2 => by omega⟩⟩
        case measure => simp [intOf]; omega
      · have e1 : (y k == z 0) = false := by simp [e]
        have E : Hid (¬ y k = z 0) := e
        clear e
        go_wp2
        go_round
        case rel => exact ⟨k - 1, W, by omega, by go_num, rfl, ⟨by have := HF.out.1; omega, HF.out.2.1, HF.out.2.2.1, fun q h1 h2 => by
          by_cases eq : q = k
          · subst eq; exact E.out
          · exact HF.out.2.2.2 q (by omega) h2⟩⟩
        case measure => simp [intOf]; omega
    · obtain rfl : k = 0 := by omega
      have hW1 := HF.out.1
      have hW2 := HF.out.2.1
      have hfr : Hid (y (W % n') = z 0 ∧ ∀ q, 1 ≤ q → q < W → y (q % n') ≠ z 0) := first_round HF.out (HR.out trivial)
      go_wp2_with fail
      refine (groups_any _ _ _ _ _ _ _).mono ?_
      rintro e w4 ⟨rfl, hg0, hg1, hb4⟩
      go_wp2_with fail
      refine (switch_any _ pb n n rb n' n' F W z y w4 (by omega) (by omega) hn0 hn0' hF hg0 hg1 (fun i hi => cell_on hb4 (HZ.out i hi)) (fun i hi => cell_on hb4 (HY.out i hi)) (by omega) hW2 hfr.out.1 hfr.out.2).mono ?_
      rintro e w5 ⟨rfl, hb5⟩
      have HB5 := (HB.trans (hb4.mono HB.size)).trans (hb5.mono (Nat.le_trans HB.size hb4.size))
      clear HF HR hfr hg0 hg1 hb4 hb5 HZ HY p0
      obtain ⟨G, hG1, hG2, hG3⟩ : ∃ G : Nat, G = F / 4294967296 * 4294967296 + W ∧ (G : Int) / 4294967296 = (F : Int) / 4294967296 ∧ bits .and .u64 (G : Int) 4294967295 = (W : Int) :=
        ⟨_, rfl, by omega, by rw [bits_low _ (by omega)]; omega⟩
      rw [← hG1]
      clear hG1
      go_wp2
      go_ret
      exact ⟨ret_bool (by simp), HB5⟩

end Go.Proofs.Qxb6001730aMods
