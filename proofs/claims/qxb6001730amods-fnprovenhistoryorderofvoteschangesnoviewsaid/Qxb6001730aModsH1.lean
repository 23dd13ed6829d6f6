import Derived.Test.Qxb6001730aModsL1
namespace Go.Proofs.Qxb6001730aMods
open Go.RowKit

def SaysBool (e : Ending) : Prop := ∃ r : Bool, e = .returned (.bool r)
theorem says_true : SaysBool (.returned (.bool true)) := ⟨true, rfl⟩
theorem says_false : SaysBool (.returned (.bool false)) := ⟨false, rfl⟩

theorem bytes29_any (a0 a1 a2 a3 : Option Addr) (n0 c0 n1 c1 n2 c2 n3 c3 : Nat) (w : World) (h0 : n0 ≤ 9223372036854775807) (h1 : n1 ≤ 9223372036854775807) (h2 : n2 ≤ 9223372036854775807) (h3 : n3 ≤ 9223372036854775807) :
    Calls Trym.prog 29 #[.slice a0 n0 c0, .slice a1 n1 c1, .slice a2 n2 c2, .slice a3 n3 c3] w fun e w' => SaysBool e ∧ w' = w := by
  by_cases b0 : n0 ≤ 1048576
  · by_cases b1 : n1 ≤ 1048576
    · by_cases b2 : n0 + n1 ≤ 1048576
      · by_cases b3 : n2 ≤ 1048576
        · by_cases b4 : n0 + n1 + n2 ≤ 1048576
          · by_cases b5 : n3 ≤ 1048576
            · by_cases b6 : n0 + n1 + n2 + n3 ≤ 1048576
              · go_enter Trym.func29, Trym.ntmps29
                go_wp2
                go_ret
                exact ⟨says_true, rfl⟩
              · go_enter Trym.func29, Trym.ntmps29
                go_wp2
                go_ret
                exact ⟨says_false, rfl⟩
            · go_enter Trym.func29, Trym.ntmps29
              go_wp2
              go_ret
              exact ⟨says_false, rfl⟩
          · go_enter Trym.func29, Trym.ntmps29
            go_wp2
            go_ret
            exact ⟨says_false, rfl⟩
        · go_enter Trym.func29, Trym.ntmps29
          go_wp2
          go_ret
          exact ⟨says_false, rfl⟩
      · go_enter Trym.func29, Trym.ntmps29
        go_wp2
        go_ret
        exact ⟨says_false, rfl⟩
    · go_enter Trym.func29, Trym.ntmps29
      go_wp2
      go_ret
      exact ⟨says_false, rfl⟩
  · go_enter Trym.func29, Trym.ntmps29
    go_wp2
    go_ret
    exact ⟨says_false, rfl⟩

theorem fit21_any (a0 a1 a2 a3 : Option Addr) (n0 c0 n1 c1 n2 c2 n3 c3 : Nat) (w : World) (h0 : n0 ≤ 9223372036854775807) (h1 : n1 ≤ 9223372036854775807) (h2 : n2 ≤ 9223372036854775807) (h3 : n3 ≤ 9223372036854775807) :
    Calls Trym.prog 21 #[.slice a0 n0 c0, .slice a1 n1 c1, .slice a2 n2 c2, .slice a3 n3 c3] w fun e w' => SaysBool e ∧ w' = w := by
  by_cases b0 : 131072 < n0
  · have d0 : decide (131072 < (n0 : Int)) = true := decide_eq_true (by omega)
    go_enter Trym.func21, Trym.ntmps21
    go_wp2
    go_ret
    exact ⟨says_false, rfl⟩
  have d0 : decide (131072 < (n0 : Int)) = false := decide_eq_false (by omega)
  by_cases b1 : 524288 < n1
  · have d1 : decide (524288 < (n1 : Int)) = true := decide_eq_true (by omega)
    go_enter Trym.func21, Trym.ntmps21
    go_wp2
    go_ret
    exact ⟨says_false, rfl⟩
  have d1 : decide (524288 < (n1 : Int)) = false := decide_eq_false (by omega)
  by_cases b2 : 131072 < n2
  · have d2 : decide (131072 < (n2 : Int)) = true := decide_eq_true (by omega)
    go_enter Trym.func21, Trym.ntmps21
    go_wp2
    go_ret
    exact ⟨says_false, rfl⟩
  have d2 : decide (131072 < (n2 : Int)) = false := decide_eq_false (by omega)
  by_cases b3 : 131072 < n3
  · have d3 : decide (131072 < (n3 : Int)) = true := decide_eq_true (by omega)
    go_enter Trym.func21, Trym.ntmps21
    go_wp2
    go_ret
    exact ⟨says_false, rfl⟩
  have d3 : decide (131072 < (n3 : Int)) = false := decide_eq_false (by omega)
  go_enter Trym.func21, Trym.ntmps21
  go_wp2
  go_ret
  exact ⟨⟨_, rfl⟩, rfl⟩

/-- What historyInputFits lets by. -/
def Fits (n0 n1 n2 n3 : Nat) : Prop := n0 ≤ 65536 ∧ n3 ≤ 4096 ∧ n1 = n3 ∧ n2 = n3 ∧ (n0 = 0 → n3 = 0)

theorem fit22_yes (a0 a1 a2 a3 : Option Addr) (n0 c0 c1 c2 n c3 : Nat) (w : World) (h0 : n0 ≤ 65536) (h3 : n ≤ 4096) (hz : n0 = 0 → n = 0) :
    Calls Trym.prog 22 #[.slice a0 n0 c0, .slice a1 n c1, .slice a2 n c2, .slice a3 n c3] w fun e w' => e = .returned (.bool true) ∧ w' = w := by
  have d0 : decide (65536 < (n0 : Int)) = false := decide_eq_false (by omega)
  have d1 : decide (4096 < (n : Int)) = false := decide_eq_false (by omega)
  by_cases e : n0 = 0
  · have d2 : ((n0 : Int) == 0) = true := by simp; omega
    have d3 : decide (0 < n) = false := decide_eq_false (by have := hz e; omega)
    clear hz e
    go_enter Trym.func22, Trym.ntmps22
    go_wp2
    go_ret
    exact ⟨rfl, rfl⟩
  · have d2 : ((n0 : Int) == 0) = false := by simp; omega
    clear hz e
    go_enter Trym.func22, Trym.ntmps22
    go_wp2
    go_ret
    exact ⟨rfl, rfl⟩

theorem fit22_no (a0 a1 a2 a3 : Option Addr) (n0 c0 n1 c1 n2 c2 n3 c3 : Nat) (w : World) (h : ¬ Fits n0 n1 n2 n3) (h0 : n0 ≤ 9223372036854775807) (h1 : n1 ≤ 9223372036854775807) (h2 : n2 ≤ 9223372036854775807) (h3 : n3 ≤ 9223372036854775807) :
    Calls Trym.prog 22 #[.slice a0 n0 c0, .slice a1 n1 c1, .slice a2 n2 c2, .slice a3 n3 c3] w fun e w' => e = .returned (.bool false) ∧ w' = w := by
  by_cases b0 : 65536 < n0
  · have d0 : decide (65536 < (n0 : Int)) = true := decide_eq_true (by omega)
    clear h
    go_enter Trym.func22, Trym.ntmps22
    go_wp2
    go_ret
    exact ⟨rfl, rfl⟩
  have d0 : decide (65536 < (n0 : Int)) = false := decide_eq_false (by omega)
  by_cases b1 : 4096 < n3
  · have d1 : decide (4096 < (n3 : Int)) = true := decide_eq_true (by omega)
    clear h
    go_enter Trym.func22, Trym.ntmps22
    go_wp2
    go_ret
    exact ⟨rfl, rfl⟩
  have d1 : decide (4096 < (n3 : Int)) = false := decide_eq_false (by omega)
  by_cases b2 : n1 = n3
  · subst b2
    by_cases b3 : n2 = n1
    · subst b3
      have hz : n0 = 0 ∧ 0 < n2 := by unfold Fits at h; omega
      have d2 : ((n0 : Int) == 0) = true := by simp; omega
      have d3 : decide (0 < n2) = true := decide_eq_true (by omega)
      clear h hz
      go_enter Trym.func22, Trym.ntmps22
      go_wp2
      go_ret
      exact ⟨rfl, rfl⟩
    · have d3 : ((n2 : Int) != (n1 : Int)) = true := by rw [bne_iff_ne]; omega
      clear h b3
      go_enter Trym.func22, Trym.ntmps22
      go_wp2
      go_ret
      exact ⟨rfl, rfl⟩
  · have d2 : ((n1 : Int) != (n3 : Int)) = true := by rw [bne_iff_ne]; omega
    clear h b2
    go_enter Trym.func22, Trym.ntmps22
    go_wp2
    go_ret
    exact ⟨rfl, rfl⟩

end Go.Proofs.Qxb6001730aMods
