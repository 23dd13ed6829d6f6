import Derived.Test.Qxb6001730aModsPlain
namespace Go.Proofs.Qxb6001730aMods.Pl

/-- None of the first m numbers is v. -/
def noneB (sq : Nat → Int) (v : Int) : Nat → Bool
  | 0 => true
  | m + 1 => noneB sq v m && !(sq m == v)

theorem noneB_iff (sq : Nat → Int) (v : Int) (m : Nat) : noneB sq v m = true ↔ ∀ q, q < m → sq q ≠ v := by
  induction m with
  | zero => simp [noneB]
  | succ m ih =>
    simp only [noneB, Bool.and_eq_true, ih, Bool.not_eq_true', beq_eq_false_iff_ne]
    constructor
    · rintro ⟨h1, h2⟩ q hq
      by_cases e : q = m
      · subst e; exact h2
      · exact h1 q (by omega)
    · intro h
      exact ⟨fun q hq => h q (by omega), h m (by omega)⟩

/-- How many different numbers there are among the first n. -/
def dcnt (sq : Nat → Int) (n : Nat) : Nat := cnt (fun i => noneB sq (sq i) i) n

/-- The numbers as they come up first. -/
def dl (sq : Nat → Int) : Nat → List Int
  | 0 => []
  | n + 1 => if noneB sq (sq n) n then dl sq n ++ [sq n] else dl sq n

theorem dl_length (sq : Nat → Int) (n : Nat) : (dl sq n).length = dcnt sq n := by
  induction n with
  | zero => rfl
  | succ n ih =>
    unfold dl dcnt cnt
    split
    · next h => rw [List.length_append, ih]; simp [dcnt]
    · next h => rw [ih]; simp [dcnt]

theorem dl_mem (sq : Nat → Int) (n : Nat) (v : Int) : v ∈ dl sq n ↔ ∃ i, i < n ∧ sq i = v := by
  induction n with
  | zero => simp [dl]
  | succ n ih =>
    unfold dl
    split
    · next h =>
      rw [List.mem_append, ih, List.mem_singleton]
      constructor
      · rintro (⟨i, hi, e⟩ | e)
        · exact ⟨i, by omega, e⟩
        · exact ⟨n, by omega, e.symm⟩
      · rintro ⟨i, hi, e⟩
        by_cases en : i = n
        · subst en; exact Or.inr e.symm
        · exact Or.inl ⟨i, by omega, e⟩
    · next h =>
      rw [ih]
      constructor
      · rintro ⟨i, hi, e⟩; exact ⟨i, by omega, e⟩
      · rintro ⟨i, hi, e⟩
        by_cases en : i = n
        · subst en
          have h' : ¬ ∀ q, q < i → sq q ≠ sq i := fun hh => h ((noneB_iff sq (sq i) i).2 hh)
          have : ∃ q, q < i ∧ sq q = sq i := Classical.byContradiction fun hn => h' fun q hq hs => hn ⟨q, hq, hs⟩
          obtain ⟨q, hq, hs⟩ := this
          exact ⟨q, hq, hs.trans e⟩
        · exact ⟨i, by omega, e⟩

theorem dl_nodup (sq : Nat → Int) (n : Nat) : (dl sq n).Nodup := by
  induction n with
  | zero => exact List.nodup_nil
  | succ n ih =>
    unfold dl
    split
    · next h =>
      rw [List.nodup_append]
      refine ⟨ih, by simp, fun a ha b hb => ?_⟩
      rw [List.mem_singleton] at hb
      subst hb
      obtain ⟨i, hi, e⟩ := (dl_mem sq n a).1 ha
      rw [← e]
      exact (noneB_iff sq (sq n) n).1 h i hi
    · exact ih

theorem nodup_len_le {l1 l2 : List Int} (h : l1.Nodup) (hs : ∀ x, x ∈ l1 → x ∈ l2) : l1.length ≤ l2.length := by
  induction l1 generalizing l2 with
  | nil => exact Nat.zero_le _
  | cons a l ih =>
    have ha : a ∈ l2 := hs a (List.mem_cons_self ..)
    have hn := List.nodup_cons.1 h
    have : l.length ≤ (l2.erase a).length := ih hn.2 fun x hx => by
      have hne : x ≠ a := fun e => hn.1 (e ▸ hx)
      exact (List.mem_erase_of_ne hne).2 (hs x (List.mem_cons_of_mem _ hx))
    rw [List.length_erase_of_mem ha] at this
    have hpos : 0 < l2.length := List.length_pos_of_mem ha
    simp only [List.length_cons]; omega

/-- What stands under a key. -/
def lk (m : List (Int × Nat)) (s : Int) : Option Nat := (m.find? fun e => e.1 == s).map (·.2)

/-- The map with one binding put in. -/
def put (m : List (Int × Nat)) (s : Int) (q : Nat) : List (Int × Nat) :=
  match lk m s with
  | none => m ++ [(s, q)]
  | some _ => m.map fun e => if e.1 == s then (s, q) else e

theorem lk_none {m : List (Int × Nat)} {s : Int} (h : lk m s = none) : ∀ e ∈ m, e.1 ≠ s := by
  unfold lk at h
  rw [Option.map_eq_none_iff, List.find?_eq_none] at h
  intro e he hs
  exact h e he (by simp [hs])

theorem lk_some {m : List (Int × Nat)} {s : Int} {q : Nat} (h : lk m s = some q) : (s, q) ∈ m := by
  unfold lk at h
  rw [Option.map_eq_some_iff] at h
  obtain ⟨e, he, hq⟩ := h
  have h1 := List.mem_of_find?_eq_some he
  have h2 := List.find?_some he
  simp at h2
  obtain ⟨a, b⟩ := e
  simp at h2 hq
  subst h2 hq
  exact h1

theorem lk_of_mem {m : List (Int × Nat)} {s : Int} {q : Nat} (hn : (m.map (·.1)).Nodup) (h : (s, q) ∈ m) : lk m s = some q := by
  induction m with
  | nil => cases h
  | cons e m ih =>
    rw [List.map_cons, List.nodup_cons] at hn
    unfold lk
    rw [List.find?_cons]
    rcases List.mem_cons.1 h with h | h
    · subst h; simp
    · have hne : e.1 ≠ s := fun hs => hn.1 (by rw [hs]; exact List.mem_map.2 ⟨(s, q), h, rfl⟩)
      have hb : (e.1 == s) = false := beq_eq_false_iff_ne.2 hne
      rw [hb]
      exact ih hn.2 h

/-- What the map holds when the proposals L have been gone through: under each number the first met of the latest view. -/
structure Seen (ps pv : Nat → Int) (m : List (Int × Nat)) (L : List Nat) : Prop where
  nodup : (m.map (·.1)).Nodup
  best : ∀ s q, (s, q) ∈ m → q ∈ L ∧ ps q = s ∧ ∀ q', q' ∈ L → ps q' = s → pv q' ≤ pv q
  all : ∀ q, q ∈ L → ∃ q0, (ps q, q0) ∈ m

theorem Seen.nil (ps pv : Nat → Int) : Seen ps pv [] [] := ⟨List.nodup_nil, (fun _ _ h => by cases h), (fun _ h => by cases h)⟩

theorem Seen.new {ps pv : Nat → Int} {m : List (Int × Nat)} {L : List Nat} (h : Seen ps pv m L) (q : Nat) (hq : lk m (ps q) = none) : Seen ps pv (put m (ps q) q) (L ++ [q]) := by
  unfold put
  rw [hq]
  have hno := lk_none hq
  refine ⟨?_, ?_, ?_⟩
  · rw [List.map_append, List.nodup_append]
    refine ⟨h.nodup, by simp, fun a ha b hb => ?_⟩
    obtain ⟨e, he, rfl⟩ := List.mem_map.1 ha
    simp at hb
    subst hb
    exact hno e he
  · intro s q1 hm0
    rcases List.mem_append.1 hm0 with hm | hm
    · obtain ⟨h1, h2, h3⟩ := h.best s q1 hm
      refine ⟨List.mem_append.2 (Or.inl h1), h2, fun q' hq' hs => ?_⟩
      rcases List.mem_append.1 hq' with h' | h'
      · exact h3 q' h' hs
      · simp at h'; subst h'; exact absurd hs.symm (hno (s, q1) hm)
    · simp at hm
      obtain ⟨rfl, rfl⟩ := hm
      refine ⟨List.mem_append.2 (Or.inr (by simp)), rfl, fun q' hq' hs => ?_⟩
      rcases List.mem_append.1 hq' with h' | h'
      · obtain ⟨q0, hq0⟩ := h.all q' h'
        exact absurd hs (by have := hno _ hq0; simpa using this)
      · simp at h'; subst h'; exact Int.le_refl _
  · intro q1 hq1
    rcases List.mem_append.1 hq1 with h' | h'
    · obtain ⟨q0, hq0⟩ := h.all q1 h'
      exact ⟨q0, List.mem_append.2 (Or.inl hq0)⟩
    · simp at h'; subst h'; exact ⟨q1, List.mem_append.2 (Or.inr (by simp))⟩

theorem Seen.keep {ps pv : Nat → Int} {m : List (Int × Nat)} {L : List Nat} (h : Seen ps pv m L) (q q0 : Nat) (hq : lk m (ps q) = some q0) (hv : pv q ≤ pv q0) : Seen ps pv m (L ++ [q]) := by
  have hm0 := lk_some hq
  refine ⟨h.nodup, ?_, ?_⟩
  · intro s q1 hm
    obtain ⟨h1, h2, h3⟩ := h.best s q1 hm
    refine ⟨List.mem_append.2 (Or.inl h1), h2, fun q' hq' hs => ?_⟩
    rcases List.mem_append.1 hq' with h' | h'
    · exact h3 q' h' hs
    · simp at h'; subst h'
      subst hs
      have e1 := lk_of_mem h.nodup hm
      rw [hq] at e1
      cases e1
      exact hv
  · intro q1 hq1
    rcases List.mem_append.1 hq1 with h' | h'
    · exact h.all q1 h'
    · simp at h'; subst h'; exact ⟨q0, hm0⟩

theorem Seen.better {ps pv : Nat → Int} {m : List (Int × Nat)} {L : List Nat} (h : Seen ps pv m L) (q q0 : Nat) (hq : lk m (ps q) = some q0) (hv : pv q0 < pv q) : Seen ps pv (put m (ps q) q) (L ++ [q]) := by
  have hm0 := lk_some hq
  unfold put
  rw [hq]
  have hkeys : (m.map fun e => if e.1 == ps q then (ps q, q) else e).map (·.1) = m.map (·.1) := by
    rw [List.map_map]
    refine List.map_congr_left fun e _ => ?_
    simp only [Function.comp]
    split
    · next he => exact (beq_iff_eq.1 he).symm
    · rfl
  have hmem : ∀ s q1, (s, q1) ∈ (m.map fun e => if e.1 == ps q then (ps q, q) else e) ↔ (s = ps q ∧ q1 = q) ∨ (s ≠ ps q ∧ (s, q1) ∈ m) := by
    intro s q1
    rw [List.mem_map]
    constructor
    · rintro ⟨e, he, hh⟩
      split at hh
      · injection hh with h1 h2; exact Or.inl ⟨h1.symm, h2.symm⟩
      · next hne =>
        subst hh
        exact Or.inr ⟨by simpa using hne, he⟩
    · rintro (⟨rfl, rfl⟩ | ⟨hs, hm⟩)
      · exact ⟨(ps q1, q0), hm0, by simp⟩
      · exact ⟨(s, q1), hm, by simp [hs]⟩
  refine ⟨by rw [hkeys]; exact h.nodup, ?_, ?_⟩
  · intro s q1 hm
    rcases (hmem s q1).1 hm with ⟨rfl, rfl⟩ | ⟨hs, hm⟩
    · refine ⟨List.mem_append.2 (Or.inr (by simp)), rfl, fun q' hq' hs => ?_⟩
      rcases List.mem_append.1 hq' with h' | h'
      · have := (h.best _ _ hm0).2.2 q' h' hs; omega
      · simp at h'; subst h'; exact Int.le_refl _
    · obtain ⟨h1, h2, h3⟩ := h.best s q1 hm
      refine ⟨List.mem_append.2 (Or.inl h1), h2, fun q' hq' hs' => ?_⟩
      rcases List.mem_append.1 hq' with h' | h'
      · exact h3 q' h' hs'
      · simp at h'; subst h'; exact absurd hs'.symm hs
  · intro q1 hq1
    have : ∃ q2, (ps q1, q2) ∈ m := by
      rcases List.mem_append.1 hq1 with h' | h'
      · exact h.all q1 h'
      · simp at h'; subst h'; exact ⟨q0, hm0⟩
    obtain ⟨q2, h2⟩ := this
    by_cases e : ps q1 = ps q
    · exact ⟨q, (hmem _ _).2 (Or.inl ⟨e, rfl⟩)⟩
    · exact ⟨q2, (hmem _ _).2 (Or.inr ⟨e, h2⟩)⟩

/-- The proposals L are those of the entries 0 .. n - 1, whatever their order. -/
structure Covers (sq vw : Nat → Int) (n : Nat) (ps pv : Nat → Int) (L : List Nat) : Prop where
  from_ : ∀ q, q ∈ L → ∃ i, i < n ∧ ps q = sq i ∧ pv q = vw i
  to : ∀ i, i < n → ∃ q, q ∈ L ∧ ps q = sq i ∧ pv q = vw i

theorem seen_length {sq vw ps pv : Nat → Int} {n : Nat} {m : List (Int × Nat)} {L : List Nat} (h : Seen ps pv m L) (c : Covers sq vw n ps pv L) : m.length = dcnt sq n := by
  rw [← dl_length]
  have hl : m.length = (m.map (·.1)).length := by rw [List.length_map]
  rw [hl]
  apply Nat.le_antisymm
  · refine nodup_len_le h.nodup fun x hx => ?_
    obtain ⟨⟨s, q⟩, he, rfl⟩ := List.mem_map.1 hx
    obtain ⟨h1, h2, _⟩ := h.best s q he
    obtain ⟨i, hi, e1, _⟩ := c.from_ q h1
    exact (dl_mem sq n s).2 ⟨i, hi, by rw [← e1, h2]⟩
  · refine nodup_len_le (dl_nodup sq n) fun x hx => ?_
    obtain ⟨i, hi, e⟩ := (dl_mem sq n x).1 hx
    obtain ⟨q, hq, e1, _⟩ := c.to i hi
    obtain ⟨q0, h0⟩ := h.all q hq
    exact List.mem_map.2 ⟨_, h0, by show ps q = x; rw [e1, e]⟩

theorem seen_look {sq vw ps pv : Nat → Int} {n : Nat} {m : List (Int × Nat)} {L : List Nat} (h : Seen ps pv m L) (c : Covers sq vw n ps pv L) (i : Nat) (hi : i < n) :
    ∃ q, lk m (sq i) = some q ∧ q ∈ L ∧ ps q = sq i := by
  obtain ⟨q, hq, e1, _⟩ := c.to i hi
  obtain ⟨q0, h0⟩ := h.all q hq
  rw [e1] at h0
  obtain ⟨h1, h2, _⟩ := h.best _ _ h0
  exact ⟨q0, lk_of_mem h.nodup h0, h1, h2⟩

theorem seen_view_le {sq vw ps pv ps' pv' : Nat → Int} {n : Nat} {m m' : List (Int × Nat)} {L L' : List Nat} (h : Seen ps pv m L) (c : Covers sq vw n ps pv L) (h' : Seen ps' pv' m' L') (c' : Covers sq vw n ps' pv' L')
    {s : Int} {q q' : Nat} (hq : lk m s = some q) (hq' : lk m' s = some q') : pv q ≤ pv' q' := by
  obtain ⟨h1, h2, _⟩ := h.best _ _ (lk_some hq)
  obtain ⟨_, _, h3⟩ := h'.best _ _ (lk_some hq')
  obtain ⟨i, hi, e1, e2⟩ := c.from_ q h1
  obtain ⟨x, hx, e3, e4⟩ := c'.to i hi
  have := h3 x hx (by rw [e3, ← e1, h2])
  rw [e4, ← e2] at this
  exact this

theorem seen_view {sq vw ps pv ps' pv' : Nat → Int} {n : Nat} {m m' : List (Int × Nat)} {L L' : List Nat} (h : Seen ps pv m L) (c : Covers sq vw n ps pv L) (h' : Seen ps' pv' m' L') (c' : Covers sq vw n ps' pv' L')
    {s : Int} {q q' : Nat} (hq : lk m s = some q) (hq' : lk m' s = some q') : pv q = pv' q' :=
  Int.le_antisymm (seen_view_le h c h' c' hq hq') (seen_view_le h' c' h c hq' hq)

/-- M is the greatest of lo and the first n numbers. -/
def Top (f : Nat → Int) (n : Nat) (lo M : Int) : Prop := lo ≤ M ∧ (∀ i, i < n → f i ≤ M) ∧ (M = lo ∨ ∃ i, i < n ∧ f i = M)

theorem Top.unique {f : Nat → Int} {n : Nat} {lo M M' : Int} (h : Top f n lo M) (h' : Top f n lo M') : M = M' := by
  obtain ⟨a1, a2, a3⟩ := h
  obtain ⟨b1, b2, b3⟩ := h'
  apply Int.le_antisymm
  · rcases a3 with e | ⟨i, hi, e⟩
    · rw [e]; exact b1
    · rw [← e]; exact b2 i hi
  · rcases b3 with e | ⟨i, hi, e⟩
    · rw [e]; exact a1
    · rw [← e]; exact a2 i hi

end Go.Proofs.Qxb6001730aMods.Pl
