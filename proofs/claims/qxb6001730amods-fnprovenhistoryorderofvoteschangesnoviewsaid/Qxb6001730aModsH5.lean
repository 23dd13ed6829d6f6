import Derived.Test.Qxb6001730aModsH4
import Derived.Deep.RegionLaw
namespace Go.Proofs.Qxb6001730aMods
open Go.RowKit
attribute [local go_sem ↓] Go.wp_at_zero Go.wp_at_succ

theorem Trym.info75 : (Trym.prog.info? 75).map (fun i => (i.zero, i.size, i.bytes)) = some (some (.agg #[.pointer none, .slice none 0 0]), 2, 32) := by kernel_rfl

/-- The append of buildVotes, at a step of its region. -/
theorem step75 (W : World) {ops : Array Oper} {o : Oper} {a : Act} {K : Act → World → Prop} {Q : Exit → Act → World → Prop} {E : Prop} (hgd : o.guard = none)
    (ho : o.op = .call { callee := .builtin .append, args := #[.tmp 92, .tmp 95], argTypes := #[53, 53] })
    (base : Nat) (v : Value) (n : Nat) (xs : List Value) (hs : a.eval (.tmp 92) = v) (hown : W.ownsRow base 75 2 v n xs)
    (q Bn c : Nat) (hx : a.eval (.tmp 95) = .slice (some ⟨Bn, 0, none⟩) 1 c) (hB : W.heap[Bn]? = some (.cells #[.pointer (some ⟨q, 0, none⟩), .slice none 0 0] 75))
    (hn : n ≤ 4096) (hbase : base ≤ W.heap.size) (H : Nat) (hH : W.heap.size = H)
    (h : ∀ g cap w', w'.ownsRow base 75 2 (.slice (some ⟨g, 0, none⟩) (n + 1) cap) (n + 1) (xs ++ [.pointer (some ⟨q, 0, none⟩), .slice none 0 0]) → W.grownBy w' v.ownBlock → (v.ownBlock = some g ∨ g = H) → g < w'.heap.size →
      K (a.put o.dst (.slice (some ⟨g, 0, none⟩) (n + 1) cap)) w') :
    if Region.wanted o (yielded ops a.tmps) = true then Oper.wp Trym.prog o a W K Q else E := by
  obtain ⟨i0, hi0, hzz⟩ := Option.map_eq_some_iff.1 Trym.info75
  simp only [Prod.mk.injEq] at hzz
  obtain ⟨hz0, hz1, hz2⟩ := hzz
  refine step_append_lies W hgd (.tmp 92) (.tmp 95) 53 ho base 75 i0 _ 2 32 Trym.underlying53 hi0 hz0 hz1 hz2 rfl (by decide) v n xs hs hown ⟨Bn, 0, none⟩ 1 c [.pointer (some ⟨q, 0, none⟩), .slice none 0 0] hx rfl (World.news_of_block hB) ?_ (by decide) (by unfold maxLen; omega) (by omega) hbase H hH h
  intro u hu
  simp at hu
  rcases hu with rfl | rfl <;> rfl

theorem fill_own {w wr : World} {nv k : Nat} {P : Nat → Nat} {st vw sq : Nat → Int} {pr : Nat → Value} {pl : Nat → List Nat} (h : Fill w wr nv k P st vw sq pr pl) {x : Nat} (hx : x < nv) {X : World} {o1 o2 : Obj}
    (hXh : X.heap = ((wr.alloc o1).alloc o2).heap) : X.ownsRow (w.heap.size + 1 + 3 * nv) 75 2 (pr x) (pl x).length (prow (pl x)) := by
  have h0 := ((h.own x hx).alloc o1).alloc o2
  unfold World.ownsRow at h0 ⊢
  rw [hXh]; exact h0

theorem fill_kept {w wr : World} {nv k : Nat} {P : Nat → Nat} {st vw sq : Nat → Int} {pr : Nat → Value} {pl : Nat → List Nat} (h : Fill w wr nv k P st vw sq pr pl) {x p : Nat} (hx : x < nv) (hp : p < nv) {X w1 : World} {o1 o2 : Obj}
    (hXh : X.heap = ((wr.alloc o1).alloc o2).heap) (hgrow : X.grownBy w1 (pr x).ownBlock) :
    w1.cell? ⟨w.heap.size, p, none⟩ = some (.pointer (some ⟨w.heap.size + 3 + 3 * P p, 0, none⟩)) ∧ w1.cell? ⟨w.heap.size + 3 + 3 * x, 5, none⟩ = some (pr x) ∧ w1.frozen? ⟨w.heap.size + 3 + 3 * x, 5, none⟩ = false := by
  have hsz := h.size
  have hXs : X.heap.size = wr.heap.size + 1 + 1 := by rw [hXh]; simp
  have keep : ∀ b, b < w.heap.size + 1 + 3 * nv → w1.heap[b]? = wr.heap[b]? := fun b hb => by
    rw [hgrow.block b (by omega) (fun e => by have := (h.own x hx).lt b e.symm; omega), hXh, Go.Deep.blk_alloc_lt _ _ _ (by simp; omega), Go.Deep.blk_alloc_lt _ _ _ (by omega)]
  refine ⟨?_, ?_, ?_⟩
  · rw [World.cell?_of_block (w := wr) (keep _ (by show w.heap.size < _; omega))]; exact h.row p hp
  · rw [World.cell?_of_block (w := wr) (keep _ (by show w.heap.size + 3 + 3 * x < _; omega))]; exact h.five x hx
  · rw [World.frozen?_of_block (w := wr) (keep _ (by show w.heap.size + 3 + 3 * x < _; omega))]; exact h.frz x hx

theorem two_new (w : World) (o1 o2 : Obj) {X : World} (hX : X.heap = ((w.alloc o1).alloc o2).heap) : X.heap[w.heap.size + 1]? = some o2 := by
  have := Go.Deep.blk_alloc_new (w.alloc o1) o2
  rw [hX]; simpa using this

end Go.Proofs.Qxb6001730aMods
