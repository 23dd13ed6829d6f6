import Derived.Test.Qxb6001730aModsH4
import Derived.Test.Qxb6001730aModsH6
import Derived.Deep.RegionHeld3
import Derived.Deep.DrawnRows
namespace Go.Proofs.Qxb6001730aMods
open Go.RowKit

/-- The votes in memory, by their place p in the slice. -/
structure Votes (W : World) (vs nv : Nat) (vb cs cp : Nat → Nat) (st mk : Nat → Int) (pl : Nat → List Nat) (pv ps : Nat → Int) : Prop where
  row : ∀ p, p < nv → W.cell? ⟨vs, p, none⟩ = some (.pointer (some ⟨vb p, 0, none⟩))
  stb : ∀ p, p < nv → W.cell? ⟨vb p, 3, none⟩ = some (.int .u64 (st p))
  chk : ∀ p, p < nv → W.cell? ⟨vb p, 4, none⟩ = some (.slice (some ⟨cs p, 0, none⟩) 1 1)
  ptr : ∀ p, p < nv → W.cell? ⟨cs p, 0, none⟩ = some (.pointer (some ⟨cp p, 0, none⟩))
  seq : ∀ p, p < nv → W.cell? ⟨cp p, 1, none⟩ = some (.int .u64 (mk p))
  prp : ∀ p, p < nv → ∃ a c g, W.cell? ⟨vb p, 5, none⟩ = some (.slice a (pl p).length c) ∧ (0 < (pl p).length → a = some ⟨g, 0, none⟩) ∧
    ∀ j (h : j < (pl p).length), W.cell? ⟨g, 2 * j, none⟩ = some (.pointer (some ⟨(pl p)[j], 0, none⟩)) ∧ W.cell? ⟨g, 2 * j + 1, none⟩ = some (.slice none 0 0)
  pps : ∀ p, p < nv → ∀ q, q ∈ pl p → W.cell? ⟨q, 0, none⟩ = some (.int .u64 (pv q)) ∧ W.cell? ⟨q, 1, none⟩ = some (.int .u64 (ps q))
  len : ∀ p, p < nv → (pl p).length ≤ 4096

theorem Votes.on {W W' : World} {vs nv : Nat} {vb cs cp : Nat → Nat} {st mk : Nat → Int} {pl : Nat → List Nat} {pv ps : Nat → Int} (h : Votes W vs nv vb cs cp st mk pl pv ps) (hb : Below W.heap.size W W') : Votes W' vs nv vb cs cp st mk pl pv ps where
  row := fun p hp => cell_on hb (h.row p hp)
  stb := fun p hp => cell_on hb (h.stb p hp)
  chk := fun p hp => cell_on hb (h.chk p hp)
  ptr := fun p hp => cell_on hb (h.ptr p hp)
  seq := fun p hp => cell_on hb (h.seq p hp)
  prp := fun p hp => by
    obtain ⟨a, c, g, h1, h2, h3⟩ := h.prp p hp
    exact ⟨a, c, g, cell_on hb h1, h2, fun j hj => ⟨cell_on hb (h3 j hj).1, cell_on hb (h3 j hj).2⟩⟩
  pps := fun p hp q hq => ⟨cell_on hb (h.pps p hp q hq).1, cell_on hb (h.pps p hp q hq).2⟩
  len := h.len

/-- The number in a cell. -/
def inCell (W : World) (q j : Nat) : Int := intOf ((W.cell? ⟨q, j, none⟩).getD undef)

theorem inCell_ppc {W : World} {q i : Nat} {vw sq : Nat → Int} (h : W.heap[q]? = some (.cells (ppc vw sq i) 62)) :
    W.cell? ⟨q, 0, none⟩ = some (.int .u64 (vw i)) ∧ W.cell? ⟨q, 1, none⟩ = some (.int .u64 (sq i)) ∧ inCell W q 0 = vw i ∧ inCell W q 1 = sq i := by
  have h0 : W.cell? ⟨q, 0, none⟩ = some (.int .u64 (vw i)) := cell_in h rfl
  have h1 : W.cell? ⟨q, 1, none⟩ = some (.int .u64 (sq i)) := cell_in h rfl
  exact ⟨h0, h1, by simp [inCell, h0, intOf], by simp [inCell, h1, intOf]⟩

theorem fill_votes {w wr : World} {nv np : Nat} {P : Nat → Nat} {st vw sq : Nat → Int} {pr : Nat → Value} {pl : Nat → List Nat} (h : Fill w wr nv np P st vw sq pr pl) (hP : ∀ p, p < nv → P p < nv) (hnp : np ≤ 4096) :
    Votes wr w.heap.size nv (fun p => w.heap.size + 3 + 3 * P p) (fun p => w.heap.size + 2 + 3 * P p) (fun p => w.heap.size + 1 + 3 * P p) (fun p => st (P p)) (fun p => (P p : Nat)) (fun p => pl (P p)) (fun q => inCell wr q 0) (fun q => inCell wr q 1) where
  row := h.row
  stb := fun p hp => h.stb (P p) (hP p hp)
  chk := fun p hp => h.chk (P p) (hP p hp)
  ptr := fun p hp => h.ptr (P p) (hP p hp)
  seq := fun p hp => h.seq (P p) (hP p hp)
  prp := fun p hp => by
    have h5 := h.five (P p) (hP p hp)
    have ho := h.own (P p) (hP p hp)
    rcases ho.2 with ⟨hv, hn⟩ | ⟨g, cap, cur, hv, _, _, _⟩
    · refine ⟨none, 0, 0, ?_, fun h0 => by omega, fun j hj => by omega⟩
      rw [h5, hv, hn]
    · refine ⟨some ⟨g, 0, none⟩, cap, g, by rw [h5, hv], fun _ => rfl, fun j hj => ?_⟩
      rw [hv] at ho
      obtain ⟨e1, e2⟩ := prow_get (pl (P p)) j hj
      exact ⟨by rw [ho.cellAt (2 * j) (by omega), e1], by rw [ho.cellAt (2 * j + 1) (by omega), e2]⟩
  pps := fun p hp q hq => by
    obtain ⟨_, i, _, hi⟩ := h.pps (P p) (hP p hp) q hq
    obtain ⟨a1, a2, a3, a4⟩ := inCell_ppc hi
    show wr.cell? _ = some (.int .u64 (inCell wr q 0)) ∧ wr.cell? _ = some (.int .u64 (inCell wr q 1))
    rw [a3, a4]
    exact ⟨a1, a2⟩
  len := fun p hp => Nat.le_trans (h.len (P p) (hP p hp)) hnp

theorem fill_covers {w wr : World} {nv np : Nat} {P : Nat → Nat} {st vw sq : Nat → Int} {pr : Nat → Value} {pl : Nat → List Nat} (h : Fill w wr nv np P st vw sq pr pl) (hP : ∀ p, p < nv → P p < nv) (hPP : ∀ p, p < nv → P (P p) = p) :
    Pl.Covers sq vw np (fun q => inCell wr q 1) (fun q => inCell wr q 0) ((List.range nv).flatMap fun p => pl (P p)) where
  from_ := fun q hq => by
    obtain ⟨p, hp, hq⟩ := List.mem_flatMap.1 hq
    have hp : p < nv := List.mem_range.1 hp
    obtain ⟨_, i, hi, h2⟩ := h.pps (P p) (hP p hp) q hq
    obtain ⟨_, _, a3, a4⟩ := inCell_ppc h2
    exact ⟨i, hi, a4, a3⟩
  to := fun i hi => by
    obtain ⟨v, hv, q, hq, h2⟩ := h.cov i hi
    obtain ⟨_, _, a3, a4⟩ := inCell_ppc h2
    exact ⟨q, List.mem_flatMap.2 ⟨P v, List.mem_range.2 (hP v hv), by rw [hPP v hv]; exact hq⟩, a4, a3⟩

/-- The history while it is gathered: the local 'h' lies in block w.heap.size + 1 + 1, its map in w.heap.size + 1. -/
structure Gath (w wr : World) (af tp : Int) (pf : Value) (m : List (Int × Nat)) : Prop where
  size : w.heap.size + 3 ≤ wr.heap.size
  h : wr.rowIs (w.heap.size + 1 + 1) 77 4 (fun j => if j = 0 then .int .u64 af else if j = 1 then .int .u64 tp else if j = 2 then pf else .map (some (w.heap.size + 1)))
  r : ∃ f, wr.rowIs w.heap.size 77 4 f
  mp : MapIs wr (w.heap.size + 1) m
  old : Below w.heap.size w wr

theorem Gath.alloc {w wr : World} {af tp : Int} {pf : Value} {m : List (Int × Nat)} (h : Gath w wr af tp pf m) (o : Obj) : Gath w (wr.alloc o) af tp pf m where
  size := by have := h.size; simp; omega
  h := h.h.alloc o
  r := by obtain ⟨f, hf⟩ := h.r; exact ⟨f, hf.alloc o⟩
  mp := h.mp.of_block (Go.Deep.blk_alloc_lt _ _ _ h.mp.lt)
  old := h.old.alloc h.old.size o

theorem Gath.same {w wr wr' : World} {af tp : Int} {pf : Value} {m : List (Int × Nat)} (h : Gath w wr af tp pf m) (e1 : wr'.heap = wr.heap) (e2 : wr'.os = wr.os) (e3 : wr'.tape = wr.tape) (e4 : wr'.output = wr.output) : Gath w wr' af tp pf m where
  size := by rw [e1]; exact h.size
  h := h.h.of_block (by rw [e1])
  r := by obtain ⟨f, hf⟩ := h.r; exact ⟨f, hf.of_block (by rw [e1])⟩
  mp := h.mp.of_block (by rw [e1])
  old := ⟨e2.trans h.old.os, e3.trans h.old.tape, e4.trans h.old.output, by rw [e1]; exact h.old.size, fun k hk => by rw [e1]; exact h.old.block k hk⟩

theorem Gath.drewN {w wr : World} {af tp : Int} {pf : Value} {m : List (Int × Nat)} (h : Gath w wr af tp pf m) (n : Nat) : Gath w (wr.drewN n) af tp pf m := h.same rfl rfl rfl rfl
theorem Gath.drew {w wr : World} {af tp : Int} {pf : Value} {m : List (Int × Nat)} (h : Gath w wr af tp pf m) : Gath w wr.drew af tp pf m := h.same rfl rfl rfl rfl

theorem Gath.set0 {w wr : World} {af tp : Int} {pf : Value} {m : List (Int × Nat)} (h : Gath w wr af tp pf m) (x : Int) : Gath w (wr.setCell ⟨w.heap.size + 1 + 1, 0, none⟩ (.int .u64 x)) x tp pf m where
  size := by have := h.size; simp [World.setCell]; omega
  h := (h.h.set 0 _).congr (fun j _ => by by_cases e : j = 0 <;> simp [e])
  r := by obtain ⟨f, hf⟩ := h.r; exact ⟨f, hf.setOther (by show w.heap.size ≠ w.heap.size + 1 + 1; omega) _⟩
  mp := h.mp.of_block (Below.heap_setCell _ _ _ _ (by show w.heap.size + 1 ≠ w.heap.size + 1 + 1; omega))
  old := h.old.setCell (by show w.heap.size ≤ w.heap.size + 1 + 1; omega) _

theorem Gath.set1 {w wr : World} {af tp : Int} {pf : Value} {m : List (Int × Nat)} (h : Gath w wr af tp pf m) (x : Int) : Gath w (wr.setCell ⟨w.heap.size + 1 + 1, 1, none⟩ (.int .u64 x)) af x pf m where
  size := by have := h.size; simp [World.setCell]; omega
  h := (h.h.set 1 _).congr (fun j _ => by by_cases e : j = 1 <;> simp [e])
  r := by obtain ⟨f, hf⟩ := h.r; exact ⟨f, hf.setOther (by show w.heap.size ≠ w.heap.size + 1 + 1; omega) _⟩
  mp := h.mp.of_block (Below.heap_setCell _ _ _ _ (by show w.heap.size + 1 ≠ w.heap.size + 1 + 1; omega))
  old := h.old.setCell (by show w.heap.size ≤ w.heap.size + 1 + 1; omega) _

theorem Gath.set2 {w wr : World} {af tp : Int} {pf : Value} {m : List (Int × Nat)} (h : Gath w wr af tp pf m) (x : Value) : Gath w (wr.setCell ⟨w.heap.size + 1 + 1, 2, none⟩ x) af tp x m where
  size := by have := h.size; simp [World.setCell]; omega
  h := (h.h.set 2 _).congr (fun j _ => by by_cases e : j = 2 <;> simp [e])
  r := by obtain ⟨f, hf⟩ := h.r; exact ⟨f, hf.setOther (by show w.heap.size ≠ w.heap.size + 1 + 1; omega) _⟩
  mp := h.mp.of_block (Below.heap_setCell _ _ _ _ (by show w.heap.size + 1 ≠ w.heap.size + 1 + 1; omega))
  old := h.old.setCell (by show w.heap.size ≤ w.heap.size + 1 + 1; omega) _

theorem Gath.put {w wr w' : World} {af tp : Int} {pf : Value} {m m' : List (Int × Nat)} (h : Gath w wr af tp pf m) (hM : MapIs w' (w.heap.size + 1) m') (hT : MapTurned wr w' (w.heap.size + 1)) : Gath w w' af tp pf m' where
  size := by rw [hT.size]; exact h.size
  h := h.h.of_block (hT.block _ (by omega))
  r := by obtain ⟨f, hf⟩ := h.r; exact ⟨f, hf.of_block (hT.block _ (by omega))⟩
  mp := hM
  old := ⟨hT.os.trans h.old.os, hT.tape.trans h.old.tape, hT.output.trans h.old.output, by rw [hT.size]; exact h.old.size, fun k hk => by rw [hT.block k (by omega)]; exact h.old.block k hk⟩

theorem Gath.cells {w wr : World} {af tp : Int} {pf : Value} {m : List (Int × Nat)} (h : Gath w wr af tp pf m) :
    wr.cell? ⟨w.heap.size + 1 + 1, 0, none⟩ = some (.int .u64 af) ∧ wr.cell? ⟨w.heap.size + 1 + 1, 1, none⟩ = some (.int .u64 tp) ∧ wr.cell? ⟨w.heap.size + 1 + 1, 2, none⟩ = some pf ∧ wr.cell? ⟨w.heap.size + 1 + 1, 3, none⟩ = some (.map (some (w.heap.size + 1))) :=
  ⟨by rw [h.h.cell (by omega)]; rfl, by rw [h.h.cell (by omega)]; rfl, by rw [h.h.cell (by omega)]; rfl, by rw [h.h.cell (by omega)]; rfl⟩

end Go.Proofs.Qxb6001730aMods
