import Derived.Test.Qxb6001735aModsSh1
namespace Go.Proofs.Qxb6001735aMods
open Go.RowKit

/-- A node as ZZNewSpanNode lays it. -/
def node (k : Int) : Obj := .cells #[.int .i64 k, .int .i64 k, .int .i32 0, .pointer none, .int .u64 0, .pointer none, .pointer none] 40

/-- A search tree in memory: nd: its nodes' blocks; sp: those on the right spine, from root down to last. A child's block is greater than its parent's. -/
structure Tr (W : World) (B root last : Nat) (nd sp : Nat → Prop) (key : Nat → Int) (lf rt : Nat → Option Nat) : Prop where
  low : ∀ b, nd b → B ≤ b
  k : ∀ b, nd b → W.cell? ⟨b, 0, none⟩ = some (.int .i64 (key b))
  l : ∀ b, nd b → W.cell? ⟨b, 5, none⟩ = some (ptr (lf b))
  r : ∀ b, nd b → W.cell? ⟨b, 6, none⟩ = some (ptr (rt b))
  fl : ∀ b, nd b → W.frozen? ⟨b, 5, none⟩ = false
  fr : ∀ b, nd b → W.frozen? ⟨b, 6, none⟩ = false
  spnd : ∀ b, sp b → nd b
  rootS : sp root
  lastS : sp last
  lastr : rt last = none
  only : ∀ b, sp b → rt b = none → b = last
  right : ∀ b c, sp b → rt b = some c → sp c ∧ b < c
  left : ∀ b c, sp b → lf b = some c → nd c ∧ ¬ sp c ∧ b < c
  offl : ∀ b c, nd b → ¬ sp b → lf b = some c → nd c ∧ ¬ sp c ∧ b < c
  offr : ∀ b c, nd b → ¬ sp b → rt b = some c → nd c ∧ ¬ sp c ∧ b < c

section
variable {W W' : World} {B root last : Nat} {nd sp : Nat → Prop} {key : Nat → Int} {lf rt : Nat → Option Nat}

theorem Tr.lt (h : Tr W B root last nd sp key lf rt) {b : Nat} (hb : nd b) : b < W.heap.size := World.block_lt_of_cell? _ _ (h.k b hb)

theorem Tr.on (h : Tr W B root last nd sp key lf rt) (hb : Below W.heap.size W W') : Tr W' B root last nd sp key lf rt :=
  { h with
    k := fun b hn => cell_on hb (h.k b hn)
    l := fun b hn => cell_on hb (h.l b hn)
    r := fun b hn => cell_on hb (h.r b hn)
    fl := fun b hn => (hb.frozen (p := ⟨b, 5, none⟩) (h.lt hn)).trans (h.fl b hn)
    fr := fun b hn => (hb.frozen (p := ⟨b, 6, none⟩) (h.lt hn)).trans (h.fr b hn) }

theorem cell_in {w : World} {b j : Nat} {cs : Array Value} {t : TypeId} {v : Value} (h : w.heap[b]? = some (.cells cs t)) (hv : cs[j]? = some v) : w.cell? ⟨b, j, none⟩ = some v := by
  simp [World.cell?, h, hv]
theorem frozen_in {w : World} {b j : Nat} {cs : Array Value} {t : TypeId} (h : w.heap[b]? = some (.cells cs t)) : w.frozen? ⟨b, j, none⟩ = false := by
  simp [World.frozen?, h]

theorem new_cell (W : World) (k : Int) (g : Nat) (v : Value) (hv : (#[.int .i64 k, .int .i64 k, .int .i32 0, .pointer none, .int .u64 0, .pointer none, .pointer none] : Array Value)[g]? = some v) : (W.alloc (node k)).cell? ⟨W.heap.size, g, none⟩ = some v :=
  cell_in (Go.Deep.blk_alloc_new W (node k)) hv

theorem new_frozen (W : World) (k : Int) (g : Nat) : (W.alloc (node k)).frozen? ⟨W.heap.size, g, none⟩ = false :=
  frozen_in (Go.Deep.blk_alloc_new W (node k))

theorem alloc_below (W : World) (o : Obj) : Below W.heap.size W (W.alloc o) := (Below.refl _ _).alloc (Nat.le_refl _) o

/-- The first node. -/
theorem tr_one (W : World) (B : Nat) (hB : B ≤ W.heap.size) (k : Int) : Tr (W.alloc (node k)) B W.heap.size W.heap.size (fun b => b = W.heap.size) (fun b => b = W.heap.size) (fun _ => k) (fun _ => none) (fun _ => none) where
  low := fun b hb => by subst hb; exact hB
  k := fun b hb => by subst hb; exact new_cell W k 0 _ rfl
  l := fun b hb => by subst hb; exact new_cell W k 5 _ rfl
  r := fun b hb => by subst hb; exact new_cell W k 6 _ rfl
  fl := fun b hb => by subst hb; exact new_frozen W k 5
  fr := fun b hb => by subst hb; exact new_frozen W k 6
  spnd := fun b hb => hb
  rootS := rfl
  lastS := rfl
  lastr := rfl
  only := fun b hb _ => hb
  right := fun b c _ h => by cases h
  left := fun b c _ h => by cases h
  offl := fun b c _ _ h => by cases h
  offr := fun b c _ _ h => by cases h

theorem link_old {c f : Nat} {k : Int} {u : Value} {b g : Nat} {v : Value} (h : W.cell? ⟨b, g, none⟩ = some v) (hne : b ≠ c ∨ g ≠ f) :
    ((W.alloc (node k)).setCell ⟨c, f, none⟩ u).cell? ⟨b, g, none⟩ = some v := by
  rw [World.cell?_setCell_other _ _ _ _ (fun e => by injection e with e1 e2; omega)]
  exact cell_on (alloc_below W _) h

theorem link_new {c f : Nat} {k : Int} {u u0 : Value} (h : W.cell? ⟨c, f, none⟩ = some u0) : ((W.alloc (node k)).setCell ⟨c, f, none⟩ u).cell? ⟨c, f, none⟩ = some u :=
  World.cell?_setCell_same _ _ _ (cell_on (alloc_below W (node k)) h)

theorem link_node {c f : Nat} {k : Int} {u : Value} {g : Nat} {v : Value} (hc : c < W.heap.size) (hv : (#[.int .i64 k, .int .i64 k, .int .i32 0, .pointer none, .int .u64 0, .pointer none, .pointer none] : Array Value)[g]? = some v) :
    ((W.alloc (node k)).setCell ⟨c, f, none⟩ u).cell? ⟨W.heap.size, g, none⟩ = some v := by
  rw [World.cell?_setCell_other _ _ _ _ (fun e => by injection e with e1 e2; omega)]
  exact new_cell W k g v hv

theorem link_frozen {c f : Nat} {k : Int} {u : Value} {b g : Nat} (hb : b < W.heap.size) (h : W.frozen? ⟨b, g, none⟩ = false) : ((W.alloc (node k)).setCell ⟨c, f, none⟩ u).frozen? ⟨b, g, none⟩ = false := by
  rw [World.frozen?_setCell]
  exact ((alloc_below W (node k)).frozen (p := ⟨b, g, none⟩) hb).trans h

theorem link_nodeFrozen {c f : Nat} {k : Int} {u : Value} {g : Nat} : ((W.alloc (node k)).setCell ⟨c, f, none⟩ u).frozen? ⟨W.heap.size, g, none⟩ = false := by
  rw [World.frozen?_setCell]
  exact new_frozen W k g

/-- A function turned at one place. -/
def upd {α : Type} (f : Nat → α) (c : Nat) (x : α) : Nat → α := fun b => if b = c then x else f b
theorem upd_same {α : Type} (f : Nat → α) (c : Nat) (x : α) : upd f c x c = x := if_pos rfl
theorem upd_other {α : Type} (f : Nat → α) {c b : Nat} (x : α) (h : b ≠ c) : upd f c x b = f b := if_neg h

/-- The new node hung as a left child. -/
theorem tr_left (h : Tr W B root last nd sp key lf rt) (k : Int) (c : Nat) (hc : nd c) (hl : lf c = none) (hB : B ≤ W.heap.size) :
    Tr ((W.alloc (node k)).setCell ⟨c, 5, none⟩ (.pointer (some ⟨W.heap.size, 0, none⟩))) B root last (fun b => nd b ∨ b = W.heap.size) sp (upd key W.heap.size k) (upd (upd lf W.heap.size none) c (some W.heap.size)) (upd rt W.heap.size none) := by
  have hcl := h.lt hc
  have ne : ∀ b, nd b → b ≠ W.heap.size := fun b hb => Nat.ne_of_lt (h.lt hb)
  have spne : ∀ b, sp b → b ≠ W.heap.size := fun b hb => ne b (h.spnd b hb)
  have spN : ¬ sp W.heap.size := fun hs => spne _ hs rfl
  refine { low := ?_, k := ?_, l := ?_, r := ?_, fl := ?_, fr := ?_, spnd := ?_, rootS := h.rootS, lastS := h.lastS, lastr := ?_, only := ?_, right := ?_, left := ?_, offl := ?_, offr := ?_ }
  · rintro b (hb | rfl)
    · exact h.low b hb
    · exact hB
  · rintro b (hb | rfl)
    · rw [upd_other _ _ (ne b hb)]; exact link_old (h.k b hb) (Or.inr (by decide))
    · rw [upd_same]; exact link_node hcl rfl
  · rintro b (hb | rfl)
    · by_cases e : b = c
      · subst e; rw [upd_same]; exact link_new (h.l b hb)
      · rw [upd_other _ _ e, upd_other _ _ (ne b hb)]; exact link_old (h.l b hb) (Or.inl e)
    · rw [upd_other _ _ (Nat.ne_of_gt hcl), upd_same]; exact link_node hcl rfl
  · rintro b (hb | rfl)
    · rw [upd_other _ _ (ne b hb)]; exact link_old (h.r b hb) (Or.inr (by decide))
    · rw [upd_same]; exact link_node hcl rfl
  · rintro b (hb | rfl)
    · exact link_frozen (h.lt hb) (h.fl b hb)
    · exact link_nodeFrozen
  · rintro b (hb | rfl)
    · exact link_frozen (h.lt hb) (h.fr b hb)
    · exact link_nodeFrozen
  · exact fun b hb => Or.inl (h.spnd b hb)
  · rw [upd_other _ _ (spne _ h.lastS)]; exact h.lastr
  · intro b hb hr; rw [upd_other _ _ (spne b hb)] at hr; exact h.only b hb hr
  · intro b d hb hr; rw [upd_other _ _ (spne b hb)] at hr; exact h.right b d hb hr
  · intro b d hb hd
    by_cases e : b = c
    · subst e; rw [upd_same] at hd; cases hd; exact ⟨Or.inr rfl, spN, hcl⟩
    · rw [upd_other _ _ e, upd_other _ _ (spne b hb)] at hd
      obtain ⟨h1, h2, h3⟩ := h.left b d hb hd
      exact ⟨Or.inl h1, h2, h3⟩
  · rintro b d (hb | rfl) hs hd
    · by_cases e : b = c
      · subst e; rw [upd_same] at hd; cases hd; exact ⟨Or.inr rfl, spN, hcl⟩
      · rw [upd_other _ _ e, upd_other _ _ (ne b hb)] at hd
        obtain ⟨h1, h2, h3⟩ := h.offl b d hb hs hd
        exact ⟨Or.inl h1, h2, h3⟩
    · rw [upd_other _ _ (Nat.ne_of_gt hcl), upd_same] at hd; cases hd
  · rintro b d (hb | rfl) hs hd
    · rw [upd_other _ _ (ne b hb)] at hd
      obtain ⟨h1, h2, h3⟩ := h.offr b d hb hs hd
      exact ⟨Or.inl h1, h2, h3⟩
    · rw [upd_same] at hd; cases hd

/-- The new node hung as a right child off the spine. -/
theorem tr_off (h : Tr W B root last nd sp key lf rt) (k : Int) (c : Nat) (hc : nd c) (hs0 : ¬ sp c) (hB : B ≤ W.heap.size) :
    Tr ((W.alloc (node k)).setCell ⟨c, 6, none⟩ (.pointer (some ⟨W.heap.size, 0, none⟩))) B root last (fun b => nd b ∨ b = W.heap.size) sp (upd key W.heap.size k) (upd lf W.heap.size none) (upd (upd rt W.heap.size none) c (some W.heap.size)) := by
  have hcl := h.lt hc
  have ne : ∀ b, nd b → b ≠ W.heap.size := fun b hb => Nat.ne_of_lt (h.lt hb)
  have spne : ∀ b, sp b → b ≠ W.heap.size := fun b hb => ne b (h.spnd b hb)
  have spc : ∀ b, sp b → b ≠ c := fun b hb e => hs0 (e ▸ hb)
  have spN : ¬ sp W.heap.size := fun hs => spne _ hs rfl
  refine { low := ?_, k := ?_, l := ?_, r := ?_, fl := ?_, fr := ?_, spnd := ?_, rootS := h.rootS, lastS := h.lastS, lastr := ?_, only := ?_, right := ?_, left := ?_, offl := ?_, offr := ?_ }
  · rintro b (hb | rfl)
    · exact h.low b hb
    · exact hB
  · rintro b (hb | rfl)
    · rw [upd_other _ _ (ne b hb)]; exact link_old (h.k b hb) (Or.inr (by decide))
    · rw [upd_same]; exact link_node hcl rfl
  · rintro b (hb | rfl)
    · rw [upd_other _ _ (ne b hb)]; exact link_old (h.l b hb) (Or.inr (by decide))
    · rw [upd_same]; exact link_node hcl rfl
  · rintro b (hb | rfl)
    · by_cases e : b = c
      · subst e; rw [upd_same]; exact link_new (h.r b hb)
      · rw [upd_other _ _ e, upd_other _ _ (ne b hb)]; exact link_old (h.r b hb) (Or.inl e)
    · rw [upd_other _ _ (Nat.ne_of_gt hcl), upd_same]; exact link_node hcl rfl
  · rintro b (hb | rfl)
    · exact link_frozen (h.lt hb) (h.fl b hb)
    · exact link_nodeFrozen
  · rintro b (hb | rfl)
    · exact link_frozen (h.lt hb) (h.fr b hb)
    · exact link_nodeFrozen
  · exact fun b hb => Or.inl (h.spnd b hb)
  · rw [upd_other _ _ (spc _ h.lastS), upd_other _ _ (spne _ h.lastS)]; exact h.lastr
  · intro b hb hr; rw [upd_other _ _ (spc b hb), upd_other _ _ (spne b hb)] at hr; exact h.only b hb hr
  · intro b d hb hr; rw [upd_other _ _ (spc b hb), upd_other _ _ (spne b hb)] at hr; exact h.right b d hb hr
  · intro b d hb hd
    rw [upd_other _ _ (spne b hb)] at hd
    obtain ⟨h1, h2, h3⟩ := h.left b d hb hd
    exact ⟨Or.inl h1, h2, h3⟩
  · rintro b d (hb | rfl) hs hd
    · rw [upd_other _ _ (ne b hb)] at hd
      obtain ⟨h1, h2, h3⟩ := h.offl b d hb hs hd
      exact ⟨Or.inl h1, h2, h3⟩
    · rw [upd_same] at hd; cases hd
  · rintro b d (hb | rfl) hs hd
    · by_cases e : b = c
      · subst e; rw [upd_same] at hd; cases hd; exact ⟨Or.inr rfl, spN, hcl⟩
      · rw [upd_other _ _ e, upd_other _ _ (ne b hb)] at hd
        obtain ⟨h1, h2, h3⟩ := h.offr b d hb hs hd
        exact ⟨Or.inl h1, h2, h3⟩
    · rw [upd_other _ _ (Nat.ne_of_gt hcl), upd_same] at hd; cases hd

/-- The new node hung at the spine's end. -/
theorem tr_last (h : Tr W B root last nd sp key lf rt) (k : Int) (hB : B ≤ W.heap.size) :
    Tr ((W.alloc (node k)).setCell ⟨last, 6, none⟩ (.pointer (some ⟨W.heap.size, 0, none⟩))) B root W.heap.size (fun b => nd b ∨ b = W.heap.size) (fun b => sp b ∨ b = W.heap.size) (upd key W.heap.size k) (upd lf W.heap.size none) (upd (upd rt W.heap.size none) last (some W.heap.size)) := by
  have hc := h.spnd last h.lastS
  have hcl := h.lt hc
  have ne : ∀ b, nd b → b ≠ W.heap.size := fun b hb => Nat.ne_of_lt (h.lt hb)
  have spne : ∀ b, sp b → b ≠ W.heap.size := fun b hb => ne b (h.spnd b hb)
  refine { low := ?_, k := ?_, l := ?_, r := ?_, fl := ?_, fr := ?_, spnd := ?_, rootS := Or.inl h.rootS, lastS := Or.inr rfl, lastr := ?_, only := ?_, right := ?_, left := ?_, offl := ?_, offr := ?_ }
  · rintro b (hb | rfl)
    · exact h.low b hb
    · exact hB
  · rintro b (hb | rfl)
    · rw [upd_other _ _ (ne b hb)]; exact link_old (h.k b hb) (Or.inr (by decide))
    · rw [upd_same]; exact link_node hcl rfl
  · rintro b (hb | rfl)
    · rw [upd_other _ _ (ne b hb)]; exact link_old (h.l b hb) (Or.inr (by decide))
    · rw [upd_same]; exact link_node hcl rfl
  · rintro b (hb | rfl)
    · by_cases e : b = last
      · subst e; rw [upd_same]; exact link_new (h.r b hb)
      · rw [upd_other _ _ e, upd_other _ _ (ne b hb)]; exact link_old (h.r b hb) (Or.inl e)
    · rw [upd_other _ _ (Nat.ne_of_gt hcl), upd_same]; exact link_node hcl rfl
  · rintro b (hb | rfl)
    · exact link_frozen (h.lt hb) (h.fl b hb)
    · exact link_nodeFrozen
  · rintro b (hb | rfl)
    · exact link_frozen (h.lt hb) (h.fr b hb)
    · exact link_nodeFrozen
  · rintro b (hb | rfl)
    · exact Or.inl (h.spnd b hb)
    · exact Or.inr rfl
  · rw [upd_other _ _ (Nat.ne_of_gt hcl), upd_same]
  · rintro b (hb | rfl) hr
    · by_cases e : b = last
      · subst e; rw [upd_same] at hr; cases hr
      · rw [upd_other _ _ e, upd_other _ _ (spne b hb)] at hr; exact absurd (h.only b hb hr) e
    · rfl
  · rintro b d (hb | rfl) hr
    · by_cases e : b = last
      · subst e; rw [upd_same] at hr; cases hr; exact ⟨Or.inr rfl, hcl⟩
      · rw [upd_other _ _ e, upd_other _ _ (spne b hb)] at hr
        obtain ⟨h1, h2⟩ := h.right b d hb hr
        exact ⟨Or.inl h1, h2⟩
    · rw [upd_other _ _ (Nat.ne_of_gt hcl), upd_same] at hr; cases hr
  · rintro b d (hb | rfl) hd
    · rw [upd_other _ _ (spne b hb)] at hd
      obtain ⟨h1, h2, h3⟩ := h.left b d hb hd
      exact ⟨Or.inl h1, fun hh => hh.elim h2 (ne d h1), h3⟩
    · rw [upd_same] at hd; cases hd
  · rintro b d (hb | rfl) hs hd
    · rw [upd_other _ _ (ne b hb)] at hd
      obtain ⟨h1, h2, h3⟩ := h.offl b d hb (fun hh => hs (Or.inl hh)) hd
      exact ⟨Or.inl h1, fun hh => hh.elim h2 (ne d h1), h3⟩
    · rw [upd_same] at hd; cases hd
  · rintro b d (hb | rfl) hs hd
    · by_cases e : b = last
      · subst e; exact absurd (Or.inl h.lastS) hs
      · rw [upd_other _ _ e, upd_other _ _ (ne b hb)] at hd
        obtain ⟨h1, h2, h3⟩ := h.offr b d hb (fun hh => hs (Or.inl hh)) hd
        exact ⟨Or.inl h1, fun hh => hh.elim h2 (ne d h1), h3⟩
    · exact absurd (Or.inr rfl) hs

end
end Go.Proofs.Qxb6001735aMods
