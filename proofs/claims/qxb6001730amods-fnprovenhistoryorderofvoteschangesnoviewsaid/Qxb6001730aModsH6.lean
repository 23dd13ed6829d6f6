import Derived.Test.Qxb6001730aModsH2
import Derived.MapKept
namespace Go.Proofs.Qxb6001730aMods
open Go.RowKit

/-- One binding of the map, as it lies in memory. -/
def kv (p : Int × Nat) : Value × Value := (.int .u64 p.1, .pointer (some ⟨p.2, 0, none⟩))

/-- Block mb is a map that holds the bindings m, in this order. -/
def MapIs (w : World) (mb : Nat) (m : List (Int × Nat)) : Prop :=
  ∃ es clock, w.heap[mb]? = some (.map es clock) ∧ es.toList.map (fun e => (e.key, e.val)) = m.map kv

theorem MapIs.of_block {w w' : World} {mb : Nat} {m : List (Int × Nat)} (h : MapIs w mb m) (e : w'.heap[mb]? = w.heap[mb]?) : MapIs w' mb m := by
  obtain ⟨es, clock, h1, h2⟩ := h
  exact ⟨es, clock, e.trans h1, h2⟩

theorem MapIs.lt {w : World} {mb : Nat} {m : List (Int × Nat)} (h : MapIs w mb m) : mb < w.heap.size := by
  obtain ⟨es, clock, h1, _⟩ := h
  exact (Array.getElem?_eq_some_iff.1 h1).1

theorem find_none (l : List MapEntry) (m : List (Int × Nat)) (h : l.map (fun e => (e.key, e.val)) = m.map kv) (s : Int) (hq : Pl.lk m s = none) : ∀ i, Instr.findNow (.int .u64) (.int .u64 s) l i = some none := by
  induction m generalizing l with
  | nil => intro i; cases l with
    | nil => rfl
    | cons e l => simp at h
  | cons p m ih =>
    cases l with
    | nil => simp at h
    | cons e l =>
      simp only [List.map_cons, List.cons.injEq] at h
      obtain ⟨h1, h2⟩ := h
      have hk : e.key = .int .u64 p.1 := congrArg Prod.fst h1
      have hp : (p.1 == s) = false := by
        have := Pl.lk_none hq p (List.mem_cons_self ..)
        exact beq_eq_false_iff_ne.2 this
      have hq' : Pl.lk m s = none := by
        unfold Pl.lk at hq ⊢
        rw [List.find?_cons, hp] at hq
        exact hq
      intro i
      have hb : (s == p.1) = false := by rw [beq_eq_false_iff_ne] at hp ⊢; exact Ne.symm hp
      simp [Instr.findNow, hk, Instr.sameNow, hb, ih l h2 hq' (i + 1)]

/-- The first binding of a key turned. -/
def setFirst (s : Int) (q : Nat) : List (Int × Nat) → List (Int × Nat)
  | [] => []
  | p :: m => if p.1 == s then (s, q) :: m else p :: setFirst s q m

theorem setFirst_put (m : List (Int × Nat)) (s : Int) (q q0 : Nat) (hn : (m.map (·.1)).Nodup) (hq : Pl.lk m s = some q0) : setFirst s q m = Pl.put m s q := by
  unfold Pl.put
  rw [hq]
  clear hq
  show setFirst s q m = m.map fun e => if e.1 == s then (s, q) else e
  induction m with
  | nil => rfl
  | cons p m ih =>
    rw [List.map_cons, List.nodup_cons] at hn
    unfold setFirst
    rw [List.map_cons]
    by_cases e : (p.1 == s) = true
    · rw [if_pos e, if_pos e]
      congr 1
      have : ∀ x ∈ m, (fun e : Int × Nat => if e.1 == s then (s, q) else e) x = x := fun x hx => by
        have hne : x.1 ≠ s := fun hh => hn.1 (by rw [beq_iff_eq.1 e, ← hh]; exact List.mem_map.2 ⟨x, hx, rfl⟩)
        simp [hne]
      rw [List.map_congr_left this, List.map_id']
    · rw [if_neg e, if_neg e, ih hn.2]

theorem find_some (l : List MapEntry) (m : List (Int × Nat)) (h : l.map (fun e => (e.key, e.val)) = m.map kv) (s : Int) (q : Nat) (hq : Pl.lk m s = some q) (q' : Nat) :
    ∃ j, (∀ i, Instr.findNow (.int .u64) (.int .u64 s) l i = some (some (i + j, .pointer (some ⟨q, 0, none⟩)))) ∧ (l[j]?).map (·.key) = some (.int .u64 s) ∧
      (l.modify j (fun e => { e with key := .int .u64 s, val := .pointer (some ⟨q', 0, none⟩) })).map (fun e => (e.key, e.val)) = (setFirst s q' m).map kv := by
  induction m generalizing l with
  | nil => cases hq
  | cons p m ih =>
    cases l with
    | nil => simp at h
    | cons e l =>
      simp only [List.map_cons, List.cons.injEq] at h
      obtain ⟨h1, h2⟩ := h
      have hk : e.key = .int .u64 p.1 := congrArg Prod.fst h1
      have hv : e.val = .pointer (some ⟨p.2, 0, none⟩) := congrArg Prod.snd h1
      by_cases hp : p.1 = s
      · have hq2 : p.2 = q := by
          unfold Pl.lk at hq
          rw [List.find?_cons] at hq
          simp [hp] at hq
          exact hq
        refine ⟨0, fun i => ?_, ?_, ?_⟩
        · simp [Instr.findNow, hk, Instr.sameNow, hp, hv, hq2]
        · simp [hk, hp]
        · simp [setFirst, hp, h2, kv]
      · have hb : (p.1 == s) = false := beq_eq_false_iff_ne.2 hp
        have hb' : (s == p.1) = false := beq_eq_false_iff_ne.2 (Ne.symm hp)
        have hq' : Pl.lk m s = some q := by
          unfold Pl.lk at hq ⊢
          rw [List.find?_cons, hb] at hq
          exact hq
        obtain ⟨j, a1, a2, a3⟩ := ih l h2 hq'
        refine ⟨j + 1, fun i => ?_, ?_, ?_⟩
        · have := a1 (i + 1)
          simp [Instr.findNow, hk, Instr.sameNow, hb', this]; omega
        · simpa using a2
        · rw [List.modify_succ_cons, List.map_cons, a3]
          simp [setFirst, hb, h1]

theorem map_get {w : World} {mb : Nat} {m : List (Int × Nat)} (h : MapIs w mb m) (s : Int) :
    (Instr.lookup 49 (.map (some mb)) (.int .u64 s) false).run Trym.prog w = .ok (.pointer ((Pl.lk m s).map fun q => ⟨q, 0, none⟩)) w := by
  obtain ⟨es, clock, hb, hm⟩ := h
  have hc : ∀ e, (Instr.checkKey e 10000 23 (.int .u64 s)).run Trym.prog w = .ok () w := fun e => MapKept.run_checkKey (k := .int .u64 s) Trym.underlying23 (by simp [MapKept.IsKey]) e 9999
  cases hq : Pl.lk m s with
  | none =>
    have hf := MapKept.run_findKey (P := Trym.prog) (w := w) (kt := 23) Trym.underlying23 (find_none es.toList m hm s hq 0)
    simp [Instr.lookup, run_underlying Trym.underlying49, MapKept.run_getObj_map hb, hc, hf, Result.andThen]
  | some q =>
    obtain ⟨j, a1, _, _⟩ := find_some es.toList m hm s q hq 0
    have hf := MapKept.run_findKey (P := Trym.prog) (w := w) (kt := 23) Trym.underlying23 (a1 0)
    simp [Instr.lookup, run_underlying Trym.underlying49, MapKept.run_getObj_map hb, hc, hf, Result.andThen]

theorem map_len {w : World} {mb : Nat} {m : List (Int × Nat)} (h : MapIs w mb m) (ty : TypeId) : (Builtin.len_ #[49] ty #[.map (some mb)]).run Trym.prog w = .ok (.int .i64 (m.length : Nat)) w := by
  obtain ⟨es, clock, hb, hm⟩ := h
  have e1 : es.size = m.length := by have := congrArg List.length hm; simpa using this
  rw [← e1]
  simp [Builtin.len_, run_underlying Trym.underlying49, MapKept.run_getObj_map hb, goInt, Result.andThen]

/-- w' is w but for the map in block mb. -/
structure MapTurned (w w' : World) (mb : Nat) : Prop where
  os : w'.os = w.os
  tape : w'.tape = w.tape
  output : w'.output = w.output
  size : w'.heap.size = w.heap.size
  block : ∀ b, b ≠ mb → w'.heap[b]? = w.heap[b]?

theorem map_put {w : World} {mb : Nat} {m : List (Int × Nat)} (h : MapIs w mb m) (hn : (m.map (·.1)).Nodup) (s : Int) (q : Nat) :
    ∃ w', (Instr.mapUpdate 49 (.map (some mb)) (.int .u64 s) (.pointer (some ⟨q, 0, none⟩))).run Trym.prog w = .ok () w' ∧ MapIs w' mb (Pl.put m s q) ∧ MapTurned w w' mb := by
  obtain ⟨es, clock, hb, hm⟩ := h
  have hc : (Instr.checkKey false 10000 23 (.int .u64 s)).run Trym.prog w = .ok () w := MapKept.run_checkKey (k := .int .u64 s) Trym.underlying23 (by simp [MapKept.IsKey]) false 9999
  have turned : ∀ o : Obj, MapTurned w { w with heap := w.heap.setIfInBounds mb o } mb := fun o => ⟨rfl, rfl, rfl, by simp, fun b hne => by simp [Ne.symm hne]⟩
  cases hq : Pl.lk m s with
  | none =>
    have hf := MapKept.run_findKey (P := Trym.prog) (w := w) (kt := 23) Trym.underlying23 (find_none es.toList m hm s hq 0)
    refine ⟨{ w with heap := w.heap.setIfInBounds mb (.map (es.push { key := .int .u64 s, val := .pointer (some ⟨q, 0, none⟩), born := clock }) (clock + 1)) }, ?_, ?_, turned _⟩
    · simp [Instr.mapUpdate, run_underlying Trym.underlying49, MapKept.run_getObj_map hb, hc, hf, MapKept.run_setObj_map _ hb, Result.andThen]
    · refine ⟨_, _, (MapKept.heap_set hb).1, ?_⟩
      unfold Pl.put
      rw [hq]
      simp [hm, kv]
  | some q0 =>
    obtain ⟨j, a1, a2, a3⟩ := find_some es.toList m hm s q0 hq q
    have hf := MapKept.run_findKey (P := Trym.prog) (w := w) (kt := 23) Trym.underlying23 (a1 0)
    have hk : ((es[j]?).map (·.key)).getD (.int .u64 s) = .int .u64 s := by
      have : (es[j]?).map (·.key) = some (.int .u64 s) := by simpa using a2
      rw [this]; rfl
    have hks : (Instr.keyThatStays (.int .u64 s) (.int .u64 s)).run Trym.prog w = .ok (.int .u64 s) w := by simp [Instr.keyThatStays, Instr.sameBits]
    refine ⟨{ w with heap := w.heap.setIfInBounds mb (.map (es.modify j fun e => { e with key := .int .u64 s, val := .pointer (some ⟨q, 0, none⟩) }) clock) }, ?_, ?_, turned _⟩
    · simp [Instr.mapUpdate, run_underlying Trym.underlying49, MapKept.run_getObj_map hb, hc, hf, hk, hks, MapKept.run_setObj_map _ hb, Result.andThen]
    · refine ⟨_, _, (MapKept.heap_set hb).1, ?_⟩
      rw [← setFirst_put m s q q0 hn hq, ← a3]
      simp

end Go.Proofs.Qxb6001730aMods
