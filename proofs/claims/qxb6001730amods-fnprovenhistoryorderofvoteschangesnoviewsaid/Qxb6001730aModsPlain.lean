namespace Go.Proofs.Qxb6001730aMods.Pl

/-- How many of the first n numbers P says yes to. -/
def cnt (P : Nat → Bool) : Nat → Nat
  | 0 => 0
  | n + 1 => cnt P n + if P n then 1 else 0

theorem cnt_le (P : Nat → Bool) (n : Nat) : cnt P n ≤ n := by
  induction n with
  | zero => exact Nat.le_refl _
  | succ n ih => unfold cnt; split <;> omega

theorem cnt_add (P : Nat → Bool) (a b : Nat) : cnt P (a + b) = cnt P a + cnt (fun k => P (a + k)) b := by
  induction b with
  | zero => rfl
  | succ b ih => show cnt P (a + b) + _ = _ + (cnt (fun k => P (a + k)) b + _); rw [ih]; show _ + (if P (a + b) = true then 1 else 0) = _ + (_ + (if P (a + b) = true then 1 else 0)); omega

theorem cnt_congr {P Q : Nat → Bool} (n : Nat) (h : ∀ k, k < n → P k = Q k) : cnt P n = cnt Q n := by
  induction n with
  | zero => rfl
  | succ n ih => unfold cnt; rw [ih (fun k hk => h k (by omega)), h n (by omega)]

theorem cnt_rot (P : Nat → Bool) (m c : Nat) (hc : c ≤ m) : cnt (fun k => P ((k + c) % m)) m = cnt P m := by
  have e1 : cnt (fun k => P ((k + c) % m)) m = cnt (fun k => P ((k + c) % m)) ((m - c) + c) := by rw [Nat.sub_add_cancel hc]
  have e2 : cnt P m = cnt P (c + (m - c)) := by rw [Nat.add_sub_cancel' hc]
  rw [e1, e2, cnt_add, cnt_add P c (m - c)]
  have a1 : cnt (fun k => P ((k + c) % m)) (m - c) = cnt (fun k => P (c + k)) (m - c) :=
    cnt_congr _ fun k hk => by show P _ = P _; rw [Nat.mod_eq_of_lt (by omega), Nat.add_comm]
  have a2 : cnt (fun k => P ((m - c + k + c) % m)) c = cnt P c :=
    cnt_congr _ fun k hk => by
      show P _ = P _
      rw [show m - c + k + c = m + k by omega, Nat.add_mod_left, Nat.mod_eq_of_lt (by omega)]
  rw [a1, a2]; omega

theorem cnt_lt (h m : Nat) (hm : h ≤ m) : cnt (fun k => decide (k < h)) m = h := by
  induction m with
  | zero => simp [cnt]; omega
  | succ n ih =>
    unfold cnt
    by_cases e : h = n + 1
    · subst e
      have : cnt (fun k => decide (k < n + 1)) n = cnt (fun k => decide (k < n)) n := cnt_congr _ fun k hk => by simp; omega
      rw [this]
      have : ∀ n, cnt (fun k => decide (k < n)) n = n := by
        intro n
        rw [cnt_congr (Q := fun _ => true) n (fun k hk => by simpa using hk)]
        induction n with
        | zero => rfl
        | succ n ih => unfold cnt; rw [ih]; rfl
      rw [this]; simp
    · rw [ih (by omega)]
      have : ¬ n < h := by omega
      simp [this]

theorem cnt_const (b : Bool) (n : Nat) : cnt (fun _ => b) n = if b then n else 0 := by
  induction n with
  | zero => simp [cnt]
  | succ n ih => unfold cnt; rw [ih]; cases b <;> simp

/-- Does follower k of m check under number s? -/
def chk (m k s : Nat) : Bool := decide ((k + m - s % m) % m < m / 2)

theorem chk_count (m s : Nat) (hm : 0 < m) : cnt (fun k => chk m k s) m = m / 2 := by
  have hr : s % m < m := Nat.mod_lt _ hm
  have : cnt (fun k => chk m k s) m = cnt (fun k => (fun j => decide (j < m / 2)) ((k + (m - s % m)) % m)) m :=
    cnt_congr _ fun k _ => by unfold chk; rw [show k + m - s % m = k + (m - s % m) by omega]
  rw [this, cnt_rot (fun j => decide (j < m / 2)) m _ (by omega), cnt_lt _ _ (by omega)]

theorem succ_mod (s m : Nat) (hm : 0 < m) : (s + 1) % m = if s % m + 1 = m then 0 else s % m + 1 := by
  have hr : s % m < m := Nat.mod_lt _ hm
  rw [← Nat.mod_add_mod s m 1]
  split
  · next h => rw [h, Nat.mod_self]
  · exact Nat.mod_eq_of_lt (by omega)

theorem mod_two (x m : Nat) (h : x < 2 * m) : x % m = if x < m then x else x - m := by
  split
  · next h => exact Nat.mod_eq_of_lt h
  · next h' => rw [Nat.mod_eq_sub_mod (by omega), Nat.mod_eq_of_lt (by omega)]

theorem chk_pass (m k s : Nat) (hk : k < m) : chk m k s = chk m ((k + 1) % m) (s + 1) := by
  have hm : 0 < m := by omega
  have hr : s % m < m := Nat.mod_lt _ hm
  unfold chk
  have e1 : (k + 1) % m = if k + 1 = m then 0 else k + 1 := by have := succ_mod k m hm; rwa [Nat.mod_eq_of_lt hk] at this
  have e : (k + m - s % m) % m = ((k + 1) % m + m - (s + 1) % m) % m := by
    rw [e1, succ_mod s m hm]
    generalize s % m = r at hr
    by_cases a : k + 1 = m
    · by_cases b : r + 1 = m
      · rw [if_pos a, if_pos b, mod_two _ m (by omega), mod_two _ m (by omega)]; split <;> split <;> omega
      · rw [if_pos a, if_neg b, mod_two _ m (by omega), mod_two _ m (by omega)]; split <;> split <;> omega
    · by_cases b : r + 1 = m
      · rw [if_neg a, if_pos b, mod_two _ m (by omega), mod_two _ m (by omega)]; split <;> split <;> omega
      · rw [if_neg a, if_neg b, mod_two _ m (by omega), mod_two _ m (by omega)]; split <;> split <;> omega
  rw [e]

theorem chk_turns (m s : Nat) (hm : 0 < m) : cnt (fun d => chk m 0 (s + d)) m = m / 2 := by
  have hr : s % m < m := Nat.mod_lt _ hm
  have : cnt (fun d => chk m 0 (s + d)) m = cnt (fun d => (fun r => decide ((m - r) % m < m / 2)) ((d + s % m) % m)) m :=
    cnt_congr _ fun d _ => by unfold chk; rw [Nat.zero_add, Nat.add_comm s d, Nat.add_mod_mod]
  rw [this, cnt_rot (fun r => decide ((m - r) % m < m / 2)) m _ (by omega)]
  by_cases h : m / 2 = 0
  · rw [h]; simp only [Nat.not_lt_zero, decide_false]; rw [cnt_const]; rfl
  · have e : m = 1 + ((m - m / 2) + (m / 2 - 1)) := by omega
    have e2 : cnt (fun r => decide ((m - r) % m < m / 2)) m = cnt (fun r => decide ((m - r) % m < m / 2)) (1 + ((m - m / 2) + (m / 2 - 1))) := by rw [← e]
    rw [e2, cnt_add, cnt_add]
    have a0 : cnt (fun r => decide ((m - r) % m < m / 2)) 1 = 1 := by
      have : 0 < m / 2 := by omega
      simp [cnt, this]
    have a1 : cnt (fun k => decide ((m - (1 + k)) % m < m / 2)) (m - m / 2) = 0 := by
      rw [cnt_congr (Q := fun _ => false) _ (fun k hk => ?_), cnt_const]; rfl
      rw [Nat.mod_eq_of_lt (by omega)]; simp; omega
    have a2 : cnt (fun k => decide ((m - (1 + (m - m / 2 + k))) % m < m / 2)) (m / 2 - 1) = m / 2 - 1 := by
      rw [cnt_congr (Q := fun _ => true) _ (fun k hk => ?_), cnt_const]; rfl
      rw [Nat.mod_eq_of_lt (by omega)]; simp; omega
    rw [a0, a1, a2]; omega

/-- Does participant j of n check under number s? The leader always does. -/
def who (n s j : Nat) : Bool := match j with
  | 0 => true
  | k + 1 => chk (n - 1) k s

theorem who_count (n s : Nat) (hn : 0 < n) : cnt (who n s) n = 1 + (n - 1) / 2 := by
  obtain ⟨m, rfl⟩ : ∃ m, n = 1 + m := ⟨n - 1, by omega⟩
  rw [cnt_add]
  have e : cnt (fun k => who (1 + m) s (1 + k)) m = cnt (fun k => chk m k s) m :=
    cnt_congr _ fun k _ => by rw [Nat.add_comm 1 k]; show chk (1 + m - 1) k s = _; rw [Nat.add_sub_cancel_left]
  rw [e, Nat.add_sub_cancel_left]
  have e1 : cnt (who (1 + m) s) 1 = 1 := rfl
  rw [e1]
  by_cases h : m = 0
  · subst h; rfl
  · rw [chk_count m s (by omega)]

end Go.Proofs.Qxb6001730aMods.Pl
