import Derived.Test.Qxb6001735aModsTree
namespace Go.Proofs.Qxb6001735aMods
open Go.RowKit

/-- The block that a pointer leads to. -/
def blkOf : Value → Nat | .pointer (some a) => a.block | _ => 0

/-- A chain of right links from root to last. -/
structure Chain (W : World) (root last : Nat) (S : Nat → Prop) (rt : Nat → Option Nat) : Prop where
  r : ∀ b, S b → W.cell? ⟨b, 6, none⟩ = some (ptr (rt b))
  rootS : S root
  next : ∀ b c, S b → rt b = some c → S c ∧ b < c
  only : ∀ b, S b → rt b = none → b = last

theorem Tr.chain {W : World} {B root last : Nat} {nd sp : Nat → Prop} {key : Nat → Int} {lf rt : Nat → Option Nat} (h : Tr W B root last nd sp key lf rt) : Chain W root last sp rt :=
  ⟨fun b hb => h.r b (h.spnd b hb), h.rootS, h.right, h.only⟩

set_option maxHeartbeats 400000 in
theorem rightmost_any (root last : Nat) (S : Nat → Prop) (rt : Nat → Option Nat) (w : World) (h : Chain w root last S rt) :
    Calls Trym.prog 14 #[.pointer (some ⟨root, 0, none⟩)] w fun e w' => e = .returned (.pointer (some ⟨last, 0, none⟩)) ∧ w' = w := by
  have HC : Hid (Chain w root last S rt) := h
  clear h
  go_enter Trym.func14, Trym.ntmps14
  go_wp2
  go_loop [0] (fun v => ∃ b : Nat, S b ∧ v = .pointer (some ⟨b, 0, none⟩)) (fun v => w.heap.size - blkOf v)
  case atStart => exact ⟨root, HC.out.rootS, rfl⟩
  case round =>
    obtain ⟨b, hb, rfl⟩ := hrel
    have HS : Hid (S b) := hb
    clear hb
    have c1 := HC.out.r b HS.out
    have hlt : b < w.heap.size := World.block_lt_of_cell? _ _ c1
    cases hr : rt b with
    | none =>
      rw [hr] at c1
      have e := HC.out.only b HS.out hr
      subst e
      have c2 : w.cell? ⟨b, 6, none⟩ = some (.pointer none) := c1
      clear c1 hr
      go_wp2
      go_ret
      exact ⟨rfl, rfl⟩
    | some c =>
      rw [hr] at c1
      obtain ⟨hc, hbc⟩ := HC.out.next b c HS.out hr
      have HSc : Hid (S c) := hc
      have c2 : w.cell? ⟨b, 6, none⟩ = some (.pointer (some ⟨c, 0, none⟩)) := c1
      clear c1 hr hc
      go_wp2
      go_round
      case rel => exact ⟨c, HSc.out, rfl⟩
      case measure => simp [blkOf]; omega

theorem zzRightmost_any (root last : Nat) (S : Nat → Prop) (rt : Nat → Option Nat) (w : World) (h : Chain w root last S rt) :
    Calls Trym.prog 7 #[.pointer (some ⟨root, 0, none⟩)] w fun e w' => e = .returned (.pointer (some ⟨last, 0, none⟩)) ∧ w' = w := by
  have HC : Hid (Chain w root last S rt) := h
  clear h
  go_enter Trym.func7, Trym.ntmps7
  go_wp2_with fail
  refine (rightmost_any root last S rt w HC.out).mono ?_
  rintro e w1 ⟨rfl, hw⟩
  obtain rfl := hw.symm
  go_wp2
  go_ret
  exact ⟨rfl, rfl⟩

theorem zzRightmost_nil (w : World) : Calls Trym.prog 7 #[.pointer none] w fun e w' => e = .returned (.pointer none) ∧ w' = w := by
  go_enter Trym.func7, Trym.ntmps7
  go_wp2_with fail
  refine (rightmost_nil w).mono ?_
  rintro e w1 ⟨rfl, hw⟩
  obtain rfl := hw.symm
  go_wp2
  go_ret
  exact ⟨rfl, rfl⟩

theorem insert_nil (k : Int) (w : World) :
    Calls Trym.prog 8 #[.pointer none, .int .i64 k] w fun e w' => e = .returned (.tuple #[.pointer (some ⟨w.heap.size, 0, none⟩), .pointer (some ⟨w.heap.size, 0, none⟩)]) ∧ w' = w.alloc (node k) := by
  go_enter Trym.func8, Trym.ntmps8
  go_wp2_with fail
  refine (new_any k w).mono ?_
  rintro e w1 ⟨rfl, hw⟩
  subst hw
  go_wp2
  go_ret2
  exact ⟨rfl, rfl⟩

/-- What an insertion does to the tree: the spine grows by the new node (its last key was at most k), or it stands (a key on it is greater than k). -/
def Grows (W W' : World) (B root last : Nat) (sp : Nat → Prop) (key : Nat → Int) (k : Int) : Prop :=
  ∃ last' nd' sp' key' lf' rt', Tr W' B root last' nd' sp' key' lf' rt' ∧ (∀ b, sp b → key' b = key b) ∧
    ((last' = W.heap.size ∧ key last ≤ k ∧ key' W.heap.size = k ∧ ∀ b, sp' b → sp b ∨ b = W.heap.size) ∨ (last' = last ∧ (∃ b, sp b ∧ k < key b) ∧ ∀ b, sp' b → sp b))

theorem grows_left {W : World} {B root last : Nat} {nd sp : Nat → Prop} {key : Nat → Int} {lf rt : Nat → Option Nat} (h : Tr W B root last nd sp key lf rt) (k : Int) (c : Nat) (hc : nd c) (hl : lf c = none) (hB : B ≤ W.heap.size) (hk : k < key c)
    (hs : ¬ sp c → ∃ b, sp b ∧ k < key b) : Grows W ((W.alloc (node k)).setCell ⟨c, 5, none⟩ (.pointer (some ⟨W.heap.size, 0, none⟩))) B root last sp key k := by
  refine ⟨last, _, sp, _, _, _, tr_left h k c hc hl hB, fun b hb => upd_other _ _ (Nat.ne_of_lt (h.lt (h.spnd b hb))), Or.inr ⟨rfl, ?_, fun b hb => hb⟩⟩
  by_cases e : sp c
  · exact ⟨c, e, hk⟩
  · exact hs e

theorem grows_right {W : World} {B root last : Nat} {nd sp : Nat → Prop} {key : Nat → Int} {lf rt : Nat → Option Nat} (h : Tr W B root last nd sp key lf rt) (k : Int) (c : Nat) (hc : nd c) (hr : rt c = none) (hB : B ≤ W.heap.size) (hk : key c ≤ k)
    (hs : ¬ sp c → ∃ b, sp b ∧ k < key b) : Grows W ((W.alloc (node k)).setCell ⟨c, 6, none⟩ (.pointer (some ⟨W.heap.size, 0, none⟩))) B root last sp key k := by
  by_cases e : sp c
  · have := h.only c e hr
    subst this
    exact ⟨W.heap.size, _, _, _, _, _, tr_last h k hB, fun b hb => upd_other _ _ (Nat.ne_of_lt (h.lt (h.spnd b hb))), Or.inl ⟨rfl, hk, upd_same _ _ _, fun b hb => hb⟩⟩
  · exact ⟨last, _, sp, _, _, _, tr_off h k c hc e hB, fun b hb => upd_other _ _ (Nat.ne_of_lt (h.lt (h.spnd b hb))), Or.inr ⟨rfl, hs e, fun b hb => hb⟩⟩

set_option maxHeartbeats 800000 in
theorem insert_any (B root last : Nat) (nd sp : Nat → Prop) (key : Nat → Int) (lf rt : Nat → Option Nat) (k : Int) (w : World) (h : Tr w B root last nd sp key lf rt) (hB : B ≤ w.heap.size) :
    Calls Trym.prog 8 #[.pointer (some ⟨root, 0, none⟩), .int .i64 k] w fun e w' => e = .returned (.tuple #[.pointer (some ⟨root, 0, none⟩), .pointer (some ⟨w.heap.size, 0, none⟩)]) ∧ Grows w w' B root last sp key k ∧ Below B w w' := by
  have HT : Hid (Tr w B root last nd sp key lf rt) := h
  clear h
  go_enter Trym.func8, Trym.ntmps8
  go_wp2_with fail
  refine (new_any k w).mono ?_
  rintro e w1 ⟨rfl, hw⟩
  have hb1 : Below w.heap.size w w1 := by rw [hw]; exact alloc_below w _
  have HW : Hid (w1 = w.alloc (node k)) := hw
  clear hw
  go_wp2
  go_loop [7] (fun v => ∃ c : Nat, nd c ∧ (¬ sp c → ∃ b, sp b ∧ k < key b) ∧ v = .pointer (some ⟨c, 0, none⟩)) (fun v => w.heap.size - blkOf v)
  case atStart => exact ⟨root, HT.out.spnd _ HT.out.rootS, fun hn => absurd HT.out.rootS hn, rfl⟩
  case round =>
    obtain ⟨c, hc, hs, rfl⟩ := hrel
    have HC : Hid (nd c) := hc
    have HS : Hid (¬ sp c → ∃ b, sp b ∧ k < key b) := hs
    clear hc hs
    have hlt := HT.out.lt HC.out
    have c0 := cell_on hb1 (HT.out.k c HC.out)
    by_cases hk : k < key c
    · cases hl : lf c with
      | none =>
        have c5 : w1.cell? ⟨c, 5, none⟩ = some (.pointer none) := by have := cell_on hb1 (HT.out.l c HC.out); rw [hl] at this; exact this
        have f5 : w1.frozen? ⟨c, 5, none⟩ = false := (hb1.frozen (p := ⟨c, 5, none⟩) hlt).trans (HT.out.fl c HC.out)
        have HL : Hid (lf c = none) := hl
        clear hl
        go_wp2_with (first
          | (go_at_call 9; refine (first_any c (key c) w1 c0).mono ?_; rintro e w' ⟨rfl, hw'⟩; subst hw')
          | (go_at_call 16; refine (left_any c none _ c5).mono ?_; rintro e w' ⟨rfl, hw'⟩; subst hw')
          | (go_at_call 17; refine (setLeft_any c none _ _ c5 f5).mono ?_; rintro e w' ⟨rfl, hw'⟩; subst hw'))
        go_ret2
        refine ⟨rfl, ?_, (hb1.mono hB).setCell (HT.out.low c HC.out) _⟩
        rw [HW.out]
        exact grows_left HT.out k c HC.out HL.out hB hk HS.out
      | some d =>
        have c5 : w1.cell? ⟨c, 5, none⟩ = some (.pointer (some ⟨d, 0, none⟩)) := by have := cell_on hb1 (HT.out.l c HC.out); rw [hl] at this; exact this
        have hd : Hid (nd d ∧ ¬ sp d ∧ c < d) := by
          by_cases e : sp c
          · exact HT.out.left c d e hl
          · exact HT.out.offl c d HC.out e hl
        have hcd := hd.out.2.2
        have hdl := HT.out.lt hd.out.1
        have HB' : Hid (∃ b, sp b ∧ k < key b) := by
          by_cases e : sp c
          · exact ⟨c, e, hk⟩
          · exact HS.out e
        clear hl
        go_wp2_with (first
          | (go_at_call 9; refine (first_any c (key c) w1 c0).mono ?_; rintro e w' ⟨rfl, hw'⟩; subst hw')
          | (go_at_call 16; refine (left_any c (some ⟨d, 0, none⟩) _ c5).mono ?_; rintro e w' ⟨rfl, hw'⟩; subst hw'))
        go_round
        case rel => exact ⟨d, hd.out.1, fun _ => HB'.out, rfl⟩
        case measure => simp [blkOf]; omega
    · cases hr : rt c with
      | none =>
        have c6 : w1.cell? ⟨c, 6, none⟩ = some (.pointer none) := by have := cell_on hb1 (HT.out.r c HC.out); rw [hr] at this; exact this
        have f6 : w1.frozen? ⟨c, 6, none⟩ = false := (hb1.frozen (p := ⟨c, 6, none⟩) hlt).trans (HT.out.fr c HC.out)
        have HR : Hid (rt c = none) := hr
        have HK : Hid (key c ≤ k) := by show key c ≤ k; omega
        clear hr
        go_wp2_with (first
          | (go_at_call 9; refine (first_any c (key c) w1 c0).mono ?_; rintro e w' ⟨rfl, hw'⟩; subst hw')
          | (go_at_call 10; refine (right_any c none _ c6).mono ?_; rintro e w' ⟨rfl, hw'⟩; subst hw')
          | (go_at_call 13; refine (setRight_any c none _ _ c6 f6).mono ?_; rintro e w' ⟨rfl, hw'⟩; subst hw'))
        go_ret2
        refine ⟨rfl, ?_, (hb1.mono hB).setCell (HT.out.low c HC.out) _⟩
        rw [HW.out]
        exact grows_right HT.out k c HC.out HR.out hB HK.out HS.out
      | some d =>
        have c6 : w1.cell? ⟨c, 6, none⟩ = some (.pointer (some ⟨d, 0, none⟩)) := by have := cell_on hb1 (HT.out.r c HC.out); rw [hr] at this; exact this
        have hd : Hid (nd d ∧ (¬ sp d → ∃ b, sp b ∧ k < key b) ∧ c < d) := by
          by_cases e : sp c
          · obtain ⟨h1, h2⟩ := HT.out.right c d e hr
            exact ⟨HT.out.spnd d h1, fun hn => absurd h1 hn, h2⟩
          · obtain ⟨h1, h2, h3⟩ := HT.out.offr c d HC.out e hr
            exact ⟨h1, fun _ => HS.out e, h3⟩
        have hcd := hd.out.2.2
        have hdl := HT.out.lt hd.out.1
        clear hr
        go_wp2_with (first
          | (go_at_call 9; refine (first_any c (key c) w1 c0).mono ?_; rintro e w' ⟨rfl, hw'⟩; subst hw')
          | (go_at_call 10; refine (right_any c (some ⟨d, 0, none⟩) _ c6).mono ?_; rintro e w' ⟨rfl, hw'⟩; subst hw'))
        go_round
        case rel => exact ⟨d, hd.out.1, hd.out.2.1, rfl⟩
        case measure => simp [blkOf]; omega

end Go.Proofs.Qxb6001735aMods
