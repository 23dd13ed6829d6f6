import Derived.Test.Qxb6001730aModsH3
import Derived.Deep.AppendLies
namespace Go.Proofs.Qxb6001730aMods
open Go.RowKit

/-- A row of prepared entries in memory: each a pointer to its proposal and an empty list. -/
def prow : List Nat → List Value
  | [] => []
  | q :: l => .pointer (some ⟨q, 0, none⟩) :: .slice none 0 0 :: prow l

theorem prow_append (l l' : List Nat) : prow (l ++ l') = prow l ++ prow l' := by
  induction l with
  | nil => rfl
  | cons q l ih => simp [prow, ih]

theorem prow_length (l : List Nat) : (prow l).length = l.length * 2 := by
  induction l with
  | nil => rfl
  | cons q l ih => simp [prow, ih]; omega

theorem prow_get (l : List Nat) (j : Nat) (h : j < l.length) : (prow l)[2 * j]? = some (.pointer (some ⟨l[j], 0, none⟩)) ∧ (prow l)[2 * j + 1]? = some (.slice none 0 0) := by
  induction l generalizing j with
  | nil => cases h
  | cons q l ih =>
    cases j with
    | zero => exact ⟨rfl, rfl⟩
    | succ j =>
      have := ih j (by simpa using h)
      rw [show 2 * (j + 1) = 2 * j + 1 + 1 by omega]
      simpa [prow] using this

/-- The cells of proposal i. -/
def ppc (vw sq : Nat → Int) (i : Nat) : Array Value := #[.int .u64 (vw i), .int .u64 (sq i), .int .i64 i, .slice none 0 0, .slice none 0 0]

/-- The votes when k of the proposals are handed out. -/
structure Fill (w wr : World) (nv k : Nat) (P : Nat → Nat) (st vw sq : Nat → Int) (pr : Nat → Value) (pl : Nat → List Nat) : Prop where
  size : w.heap.size + 1 + 3 * nv ≤ wr.heap.size
  row : ∀ p, p < nv → wr.cell? ⟨w.heap.size, p, none⟩ = some (.pointer (some ⟨w.heap.size + 3 + 3 * P p, 0, none⟩))
  seq : ∀ v, v < nv → wr.cell? ⟨w.heap.size + 1 + 3 * v, 1, none⟩ = some (.int .u64 v)
  ptr : ∀ v, v < nv → wr.cell? ⟨w.heap.size + 2 + 3 * v, 0, none⟩ = some (.pointer (some ⟨w.heap.size + 1 + 3 * v, 0, none⟩))
  stb : ∀ v, v < nv → wr.cell? ⟨w.heap.size + 3 + 3 * v, 3, none⟩ = some (.int .u64 (st v))
  chk : ∀ v, v < nv → wr.cell? ⟨w.heap.size + 3 + 3 * v, 4, none⟩ = some (.slice (some ⟨w.heap.size + 2 + 3 * v, 0, none⟩) 1 1)
  five : ∀ v, v < nv → wr.cell? ⟨w.heap.size + 3 + 3 * v, 5, none⟩ = some (pr v)
  frz : ∀ v, v < nv → wr.frozen? ⟨w.heap.size + 3 + 3 * v, 5, none⟩ = false
  own : ∀ v, v < nv → wr.ownsRow (w.heap.size + 1 + 3 * nv) 75 2 (pr v) (pl v).length (prow (pl v))
  apart : ∀ v v', v < nv → v' < nv → v ≠ v' → (pr v).ownBlock = none ∨ (pr v).ownBlock ≠ (pr v').ownBlock
  pps : ∀ v, v < nv → ∀ q, q ∈ pl v → w.heap.size + 1 + 3 * nv ≤ q ∧ ∃ i, i < k ∧ wr.heap[q]? = some (.cells (ppc vw sq i) 62)
  cov : ∀ i, i < k → ∃ v, v < nv ∧ ∃ q, q ∈ pl v ∧ wr.heap[q]? = some (.cells (ppc vw sq i) 62)
  len : ∀ v, v < nv → (pl v).length ≤ k
  old : Below w.heap.size w wr

theorem fill_start {w wr : World} {nv : Nat} {P : Nat → Nat} {st : Nat → Int} (vw sq : Nat → Int) (h : Made w wr nv nv P st) (hP : ∀ p, p < nv → P p < nv) : Fill w wr nv 0 P st vw sq (fun _ => .slice none 0 0) (fun _ => []) where
  size := by have := h.size; omega
  row := fun p hp => by rw [h.row.cell hp, if_pos (hP p hp)]
  seq := h.seq
  ptr := h.ptr
  stb := h.stb
  chk := h.chk
  five := h.five
  frz := h.frz
  own := fun _ _ => World.ownsRow_nil _ _ _ _
  apart := fun _ _ _ _ _ => Or.inl rfl
  pps := fun _ _ _ hq => by cases hq
  cov := fun i hi => absurd hi (Nat.not_lt_zero _)
  len := fun _ _ => Nat.le_refl _
  old := h.old

theorem fill_step {w wr : World} {nv k : Nat} {P : Nat → Nat} {st vw sq : Nat → Int} {pr : Nat → Value} {pl : Nat → List Nat} (h : Fill w wr nv k P st vw sq pr pl) (v : Nat) (hv : v < nv)
    {X w1 : World} {g cap : Nat} {R75 : Obj} (hXh : X.heap = ((wr.alloc (.cells (ppc vw sq k) 62)).alloc R75).heap) (hXo : X.os = wr.os) (hXt : X.tape = wr.tape) (hXu : X.output = wr.output)
    (hown : w1.ownsRow (w.heap.size + 1 + 3 * nv) 75 2 (.slice (some ⟨g, 0, none⟩) ((pl v).length + 1) cap) ((pl v).length + 1) (prow (pl v) ++ [.pointer (some ⟨wr.heap.size, 0, none⟩), .slice none 0 0]))
    (hgrow : X.grownBy w1 (pr v).ownBlock) (hat : (pr v).ownBlock = some g ∨ g = wr.heap.size + 1 + 1) :
    Fill w (w1.setCell ⟨w.heap.size + 3 + 3 * v, 5, none⟩ (.slice (some ⟨g, 0, none⟩) ((pl v).length + 1) cap)) nv (k + 1) P st vw sq
      (fun x => if x = v then .slice (some ⟨g, 0, none⟩) ((pl v).length + 1) cap else pr x) (fun x => if x = v then pl v ++ [wr.heap.size] else pl x) := by
  have hsz := h.size
  have hXs : X.heap.size = wr.heap.size + 1 + 1 := by rw [hXh]; simp
  -- a block of wr that isn't the row appended to is in w1 as it was
  have keep : ∀ b, b < wr.heap.size → some b ≠ (pr v).ownBlock → w1.heap[b]? = wr.heap[b]? := fun b hb hne => by
    rw [hgrow.block b (by omega) hne, hXh, Go.Deep.blk_alloc_lt _ _ _ (by simp; omega), Go.Deep.blk_alloc_lt _ _ _ hb]
  have hrowlt : ∀ x, x < nv → ∀ b, (pr x).ownBlock = some b → w.heap.size + 1 + 3 * nv ≤ b ∧ b < wr.heap.size := fun x hx b hb => (h.own x hx).lt b hb
  have keepLow : ∀ b, b < w.heap.size + 1 + 3 * nv → w1.heap[b]? = wr.heap[b]? := fun b hb => keep b (by omega) (fun e => by have := hrowlt v hv b e.symm; omega)
  -- and, where it isn't the vote's own block, also behind the store
  have keep2 : ∀ b, b < wr.heap.size → some b ≠ (pr v).ownBlock → b ≠ w.heap.size + 3 + 3 * v → (w1.setCell ⟨w.heap.size + 3 + 3 * v, 5, none⟩ (.slice (some ⟨g, 0, none⟩) ((pl v).length + 1) cap)).heap[b]? = wr.heap[b]? := fun b hb hne hb2 => by
    rw [Below.heap_setCell _ _ _ _ hb2]; exact keep b hb hne
  have cellLow : ∀ a : Addr, ∀ u, a.block < w.heap.size + 1 + 3 * nv → a ≠ ⟨w.heap.size + 3 + 3 * v, 5, none⟩ → wr.cell? a = some u →
      (w1.setCell ⟨w.heap.size + 3 + 3 * v, 5, none⟩ (.slice (some ⟨g, 0, none⟩) ((pl v).length + 1) cap)).cell? a = some u := fun a u ha hne hu => by
    rw [World.cell?_setCell_other _ _ _ _ (Ne.symm hne), World.cell?_of_block (keepLow a.block ha)]; exact hu
  have hppk : w1.heap[wr.heap.size]? = some (.cells (ppc vw sq k) 62) := by
    rw [hgrow.block _ (by omega) (fun e => by have := hrowlt v hv _ e.symm; omega), hXh, Go.Deep.blk_alloc_lt _ _ _ (by simp), Go.Deep.blk_alloc_new]
  have hppk2 : (w1.setCell ⟨w.heap.size + 3 + 3 * v, 5, none⟩ (.slice (some ⟨g, 0, none⟩) ((pl v).length + 1) cap)).heap[wr.heap.size]? = some (.cells (ppc vw sq k) 62) := by
    rw [Below.heap_setCell _ _ _ _ (by show wr.heap.size ≠ w.heap.size + 3 + 3 * v; omega)]; exact hppk
  -- a proposal's block isn't a row's
  have hne62 : ∀ q i, wr.heap[q]? = some (.cells (ppc vw sq i) 62) → some q ≠ (pr v).ownBlock := fun q i hq e => by
    rcases (h.own v hv).2 with ⟨hn, _⟩ | ⟨g0, cap0, cur, hv0, _, hg0, _⟩
    · rw [hn] at e; cases e
    · rw [hv0] at e
      simp only [Value.ownBlock, Option.some.injEq] at e
      subst e
      rw [hg0] at hq
      injection hq with hq
      injection hq with _ h2
      exact absurd h2 (by decide)
  have oldpp : ∀ q i, wr.heap[q]? = some (.cells (ppc vw sq i) 62) → w.heap.size + 1 + 3 * nv ≤ q →
      (w1.setCell ⟨w.heap.size + 3 + 3 * v, 5, none⟩ (.slice (some ⟨g, 0, none⟩) ((pl v).length + 1) cap)).heap[q]? = some (.cells (ppc vw sq i) 62) := fun q i hq hb => by
    have hlt : q < wr.heap.size := by obtain ⟨hlt, _⟩ := Array.getElem?_eq_some_iff.1 hq; exact hlt
    rw [keep2 q hlt (hne62 q i hq) (by omega)]; exact hq
  have vcne : ∀ x j, (j ≠ 5 ∨ x ≠ v) → (⟨w.heap.size + 3 + 3 * x, j, none⟩ : Addr) ≠ ⟨w.heap.size + 3 + 3 * v, 5, none⟩ := fun x j hj e => by
    injection e with e1 e2; omega
  refine { size := ?_, row := ?_, seq := ?_, ptr := ?_, stb := ?_, chk := ?_, five := ?_, frz := ?_, own := ?_, apart := ?_, pps := ?_, cov := ?_, len := ?_, old := ?_ }
  · have := hgrow.size; simp [World.setCell]; omega
  · exact fun p hp => cellLow _ _ (by show w.heap.size < _; omega) (fun e => by injection e with e1 e2; omega) (h.row p hp)
  · exact fun x hx => cellLow _ _ (by show w.heap.size + 1 + 3 * x < _; omega) (fun e => by injection e with e1 e2; omega) (h.seq x hx)
  · exact fun x hx => cellLow _ _ (by show w.heap.size + 2 + 3 * x < _; omega) (fun e => by injection e with e1 e2; omega) (h.ptr x hx)
  · exact fun x hx => cellLow _ _ (by show w.heap.size + 3 + 3 * x < _; omega) (vcne x 3 (by omega)) (h.stb x hx)
  · exact fun x hx => cellLow _ _ (by show w.heap.size + 3 + 3 * x < _; omega) (vcne x 4 (by omega)) (h.chk x hx)
  · intro x hx
    by_cases e : x = v
    · subst e
      rw [if_pos rfl]
      have : w1.cell? ⟨w.heap.size + 3 + 3 * x, 5, none⟩ = some (pr x) := by
        rw [World.cell?_of_block (w := wr) (keepLow _ (by show w.heap.size + 3 + 3 * x < _; omega))]; exact h.five x hx
      exact World.cell?_setCell_same _ _ _ this
    · rw [if_neg e]
      exact cellLow _ _ (by show w.heap.size + 3 + 3 * x < _; omega) (vcne x 5 (by omega)) (h.five x hx)
  · intro x hx
    rw [World.frozen?_setCell, World.frozen?_of_block (w := wr) (keepLow _ (by show w.heap.size + 3 + 3 * x < _; omega))]
    exact h.frz x hx
  · intro x hx
    refine ownsRow_setCell_below ?_ (by show w.heap.size + 3 + 3 * v < _; omega) _
    by_cases e : x = v
    · subst e
      simp only [if_true, List.length_append, List.length_singleton, prow_append]
      exact hown
    · simp only [if_neg e]
      have hX1 : X.ownsRow (w.heap.size + 1 + 3 * nv) 75 2 (pr x) (pl x).length (prow (pl x)) := by
        have h0 := ((h.own x hx).alloc (.cells (ppc vw sq k) 62)).alloc R75
        unfold World.ownsRow at h0 ⊢
        rw [hXh]; exact h0
      exact hX1.kept hgrow (h.apart x v hx hv e)
  · intro x x' hx hx' hne
    by_cases e : x = v
    · subst e
      rw [if_pos rfl, if_neg (Ne.symm hne)]
      right
      intro hh
      simp only [Value.ownBlock] at hh
      rcases hat with hat | hat
      · rcases h.apart x x' hx hx' hne with h1 | h1
        · rw [h1] at hat; cases hat
        · exact h1 (hat.trans hh)
      · have := hrowlt x' hx' g hh.symm; omega
    · rw [if_neg e]
      by_cases e' : x' = v
      · subst e'
        rw [if_pos rfl]
        rcases hat with hat | hat
        · rcases h.apart x x' hx hx' hne with h1 | h1
          · exact Or.inl h1
          · right; rw [hat] at h1; exact h1
        · cases hb : (pr x).ownBlock with
          | none => exact Or.inl rfl
          | some b =>
            right
            simp only [Value.ownBlock]
            intro hh
            have := hrowlt x hx b hb
            injection hh with hh
            omega
      · rw [if_neg e']
        exact h.apart x x' hx hx' hne
  · intro x hx q hq
    by_cases e : x = v
    · subst e
      rw [if_pos rfl] at hq
      rcases List.mem_append.1 hq with hq | hq
      · obtain ⟨h1, i, hi, h2⟩ := h.pps x hx q hq
        exact ⟨h1, i, by omega, oldpp q i h2 h1⟩
      · simp at hq; subst hq
        exact ⟨hsz, k, by omega, hppk2⟩
    · rw [if_neg e] at hq
      obtain ⟨h1, i, hi, h2⟩ := h.pps x hx q hq
      exact ⟨h1, i, by omega, oldpp q i h2 h1⟩
  · intro i hi
    by_cases e : i = k
    · subst e
      exact ⟨v, hv, wr.heap.size, by rw [if_pos rfl]; simp, hppk2⟩
    · obtain ⟨x, hx, q, hq, h2⟩ := h.cov i (by omega)
      refine ⟨x, hx, q, ?_, oldpp q i h2 (h.pps x hx q hq).1⟩
      by_cases e2 : x = v
      · subst e2; rw [if_pos rfl]; exact List.mem_append.2 (Or.inl hq)
      · rw [if_neg e2]; exact hq
  · intro x hx
    by_cases e : x = v
    · subst e; rw [if_pos rfl]; have := h.len x hx; simp; omega
    · rw [if_neg e]; have := h.len x hx; omega
  · refine Below.setCell ?_ (by show w.heap.size ≤ w.heap.size + 3 + 3 * v; omega) _
    have b1 : Below w.heap.size w X := by
      have b0 := (h.old.alloc h.old.size (.cells (ppc vw sq k) 62)).alloc (by have := h.old.size; simp; omega) R75
      exact ⟨hXo.trans h.old.os, hXt.trans h.old.tape, hXu.trans h.old.output, by rw [hXh]; exact b0.size, fun j hj => by rw [hXh]; exact b0.block j hj⟩
    exact b1.grown hgrow b1.size (fun j hj => by have := hrowlt v hv j hj; omega)

end Go.Proofs.Qxb6001730aMods
