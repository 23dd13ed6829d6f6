import Derived.Test.Qxb6001730aModsH2
import Derived.Deep.RegionHeld3
import Derived.Deep.DrawnRows
namespace Go.Proofs.Qxb6001730aMods
open Go.RowKit
attribute [local go_sem ↓] Go.wp_at_zero Go.wp_at_succ

theorem Trym.info57 : (Trym.prog.info? 57).map (fun i => (i.zero, i.size, i.bytes)) = some (some (.pointer none), 1, 8) := by kernel_rfl

theorem below3 (w : World) (o1 o2 o3 : Obj) : Below w.heap.size w (((w.alloc o1).alloc o2).alloc o3) :=
  (((Below.refl _ _).alloc (Nat.le_refl _) o1).alloc (by simp) o2).alloc (by simp; omega) o3

theorem cell3 {w : World} {p : Addr} {v : Value} (h : w.cell? p = some v) (o1 o2 o3 : Obj) : (((w.alloc o1).alloc o2).alloc o3).cell? p = some v := cell_on (below3 w o1 o2 o3) h

theorem frozen3 {w : World} {p : Addr} (hp : p.block < w.heap.size) (h : w.frozen? p = false) (o1 o2 o3 : Obj) : (((w.alloc o1).alloc o2).alloc o3).frozen? p = false :=
  ((below3 w o1 o2 o3).frozen hp).trans h

theorem new1 (w : World) (o1 o2 o3 : Obj) : (((w.alloc o1).alloc o2).alloc o3).heap[w.heap.size]? = some o1 := by
  rw [Go.Deep.blk_alloc_lt _ _ _ (by simp; omega), Go.Deep.blk_alloc_lt _ _ _ (by simp), Go.Deep.blk_alloc_new]
theorem new2 (w : World) (o1 o2 o3 : Obj) : (((w.alloc o1).alloc o2).alloc o3).heap[w.heap.size + 1]? = some o2 := by
  rw [Go.Deep.blk_alloc_lt _ _ _ (by simp)]
  have := Go.Deep.blk_alloc_new (w.alloc o1) o2
  simpa using this
theorem new3 (w : World) (o1 o2 o3 : Obj) : (((w.alloc o1).alloc o2).alloc o3).heap[w.heap.size + 1 + 1]? = some o3 := by
  have := Go.Deep.blk_alloc_new ((w.alloc o1).alloc o2) o3
  simpa using this

theorem cell_in {w : World} {b j : Nat} {cs : Array Value} {t : TypeId} {v : Value} (h : w.heap[b]? = some (.cells cs t)) (hv : cs[j]? = some v) : w.cell? ⟨b, j, none⟩ = some v := by
  simp [World.cell?, h, hv]
theorem frozen_in {w : World} {b j : Nat} {cs : Array Value} {t : TypeId} (h : w.heap[b]? = some (.cells cs t)) : w.frozen? ⟨b, j, none⟩ = false := by
  simp [World.frozen?, h]

/-- The votes as the first loop of buildVotes leaves them when k of nv are laid: P tells where the v-th vote stands. -/
structure Made (w wr : World) (nv k : Nat) (P : Nat → Nat) (st : Nat → Int) : Prop where
  size : wr.heap.size = w.heap.size + 1 + 3 * k
  row : wr.rowIs w.heap.size 57 nv (fun p => .pointer (if P p < k then some ⟨w.heap.size + 3 + 3 * P p, 0, none⟩ else none))
  seq : ∀ v, v < k → wr.cell? ⟨w.heap.size + 1 + 3 * v, 1, none⟩ = some (.int .u64 v)
  ptr : ∀ v, v < k → wr.cell? ⟨w.heap.size + 2 + 3 * v, 0, none⟩ = some (.pointer (some ⟨w.heap.size + 1 + 3 * v, 0, none⟩))
  stb : ∀ v, v < k → wr.cell? ⟨w.heap.size + 3 + 3 * v, 3, none⟩ = some (.int .u64 (st v))
  chk : ∀ v, v < k → wr.cell? ⟨w.heap.size + 3 + 3 * v, 4, none⟩ = some (.slice (some ⟨w.heap.size + 2 + 3 * v, 0, none⟩) 1 1)
  five : ∀ v, v < k → wr.cell? ⟨w.heap.size + 3 + 3 * v, 5, none⟩ = some (.slice none 0 0)
  frz : ∀ v, v < k → wr.frozen? ⟨w.heap.size + 3 + 3 * v, 5, none⟩ = false
  old : Below w.heap.size w wr

theorem made_start (w : World) (nv : Nat) (P : Nat → Nat) (st : Nat → Int) : Made w (w.alloc (.cells (madeCells #[.pointer none] nv) 57)) nv 0 P st :=
  ⟨by simp, (World.rowIs_made w _ nv 57).congr (fun i _ => by simp), fun _ h => absurd h (Nat.not_lt_zero _), fun _ h => absurd h (Nat.not_lt_zero _), fun _ h => absurd h (Nat.not_lt_zero _),
   fun _ h => absurd h (Nat.not_lt_zero _), fun _ h => absurd h (Nat.not_lt_zero _), fun _ h => absurd h (Nat.not_lt_zero _), (Below.refl _ _).alloc (Nat.le_refl _) _⟩

theorem made_step {w wr : World} {nv k : Nat} {P : Nat → Nat} {st : Nat → Int} (h : Made w wr nv k P st) (hk : k < nv) (hP : ∀ p, p < nv → P (P p) = p) (ck : Array Value) (hck : ck[1]? = some (.int .u64 k)) :
    Made w ((((wr.alloc (.cells ck 69)).alloc (.cells #[.pointer (some ⟨wr.heap.size, 0, none⟩)] 52)).alloc
      (.cells #[.int .u64 0, .int .i64 k, .int .u64 0, .int .u64 (st k), .slice (some ⟨wr.heap.size + 1, 0, none⟩) 1 1, .slice none 0 0, .slice none 0 0] 56)).setCell ⟨w.heap.size, P k, none⟩ (.pointer (some ⟨wr.heap.size + 1 + 1, 0, none⟩)))
      nv (k + 1) P st := by
  have hs := h.size
  have hlt : w.heap.size < wr.heap.size := by omega
  have far : ∀ (W : World) (v : Value) (a : Addr), w.heap.size ≠ a.block → (W.setCell ⟨w.heap.size, P k, none⟩ v).cell? a = W.cell? a := fun W v a ha => World.cell?_setCell_far W ⟨w.heap.size, P k, none⟩ a v ha
  refine ⟨?_, ?_, ?_, ?_, ?_, ?_, ?_, ?_, ?_⟩
  · simp; omega
  · refine ((((h.row.alloc _).alloc _).alloc _).set (P k) _).congr (fun p hp => ?_)
    by_cases e : p = P k
    · subst e
      rw [if_pos rfl, hP k hk, if_pos (by omega), hs]
      have : w.heap.size + 1 + 3 * k + 1 + 1 = w.heap.size + 3 + 3 * k := by omega
      rw [this]
    · rw [if_neg e]
      have hne : P p ≠ k := fun hh => e (by rw [← hh, hP p hp])
      by_cases h2 : P p < k
      · rw [if_pos h2, if_pos (by omega)]
      · rw [if_neg h2, if_neg (by omega)]
  · intro v hv
    rw [far _ _ _ (by show w.heap.size ≠ w.heap.size + 1 + 3 * v; omega)]
    by_cases e : v = k
    · subst e
      rw [show w.heap.size + 1 + 3 * v = wr.heap.size by omega]
      exact cell_in (new1 _ _ _ _) hck
    · exact cell3 (h.seq v (by omega)) _ _ _
  · intro v hv
    rw [far _ _ _ (by show w.heap.size ≠ w.heap.size + 2 + 3 * v; omega)]
    by_cases e : v = k
    · subst e
      rw [show w.heap.size + 2 + 3 * v = wr.heap.size + 1 by omega, show w.heap.size + 1 + 3 * v = wr.heap.size by omega]
      exact cell_in (new2 _ _ _ _) rfl
    · exact cell3 (h.ptr v (by omega)) _ _ _
  · intro v hv
    rw [far _ _ _ (by show w.heap.size ≠ w.heap.size + 3 + 3 * v; omega)]
    by_cases e : v = k
    · subst e
      rw [show w.heap.size + 3 + 3 * v = wr.heap.size + 1 + 1 by omega]
      exact cell_in (new3 _ _ _ _) rfl
    · exact cell3 (h.stb v (by omega)) _ _ _
  · intro v hv
    rw [far _ _ _ (by show w.heap.size ≠ w.heap.size + 3 + 3 * v; omega)]
    by_cases e : v = k
    · subst e
      rw [show w.heap.size + 3 + 3 * v = wr.heap.size + 1 + 1 by omega, show w.heap.size + 2 + 3 * v = wr.heap.size + 1 by omega]
      exact cell_in (new3 _ _ _ _) rfl
    · exact cell3 (h.chk v (by omega)) _ _ _
  · intro v hv
    rw [far _ _ _ (by show w.heap.size ≠ w.heap.size + 3 + 3 * v; omega)]
    by_cases e : v = k
    · subst e
      rw [show w.heap.size + 3 + 3 * v = wr.heap.size + 1 + 1 by omega]
      exact cell_in (new3 _ _ _ _) rfl
    · exact cell3 (h.five v (by omega)) _ _ _
  · intro v hv
    rw [World.frozen?_setCell]
    by_cases e : v = k
    · subst e
      rw [show w.heap.size + 3 + 3 * v = wr.heap.size + 1 + 1 by omega]
      exact frozen_in (new3 _ _ _ _)
    · exact frozen3 (World.block_lt_of_cell? _ _ (h.five v (by omega))) (h.frz v (by omega)) _ _ _
  · exact (h.old.trans ((below3 wr _ _ _).mono h.old.size)).setCell (Nat.le_refl _) _

end Go.Proofs.Qxb6001730aMods
