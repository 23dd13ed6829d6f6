import Derived.Test.Qxb6001735aModsL1
namespace Go.Proofs.Qxb6001735aMods
open Go.RowKit

/-- What zzBuild hands back. -/
def Built (W : World) (B n : Nat) (v : Value) : Prop :=
  (n = 0 ∧ v = .pointer none) ∨ (0 < n ∧ ∃ root last nd sp key lf rt, v = .pointer (some ⟨root, 0, none⟩) ∧ Tr W B root last nd sp key lf rt)

set_option maxHeartbeats 400000 in
theorem build_any (a : Option Addr) (kb n c : Nat) (z : Nat → Int) (w : World) (hn : n ≤ 4096) (ha : 0 < n → a = some ⟨kb, 0, none⟩) (hc : ∀ i, i < n → w.cell? ⟨kb, i, none⟩ = some (.int .i64 (z i))) :
    Calls Trym.prog 12 #[.slice a n c] w fun e w' => ∃ v, e = .returned v ∧ Built w' w.heap.size n v ∧ Below w.heap.size w w' := by
  have EA : Hid (0 < n → a = some ⟨kb, 0, none⟩) := ha
  have KC : Hid (∀ i, i < n → w.cell? ⟨kb, i, none⟩ = some (.int .i64 (z i))) := hc
  clear ha hc
  go_enter Trym.func12, Trym.ntmps12
  go_wp2
  go_loopw [3, 4] (fun r i wr => ∃ k : Nat, k ≤ n ∧ i = .int .i64 k ∧ Built wr w.heap.size k r ∧ Below w.heap.size w wr) (fun _ i _ => n - (intOf i).toNat)
  case atStart => exact ⟨0, Nat.zero_le _, rfl, Or.inl ⟨rfl, rfl⟩, Below.refl _ _⟩
  case round =>
    obtain ⟨k, hk, rfl, hT, hbr⟩ := hrel
    by_cases hlt : k < n
    · obtain rfl := EA.out (by omega)
      have c1 := cell_on hbr (KC.out k hlt)
      have i1 : (k : Int) < (n : Int) := by omega
      rcases hT with ⟨rfl, rfl⟩ | ⟨hk0, root, last, nd, sp, key, lf, rt, rfl, hTr⟩
      · have HT1 : Hid (Tr (wr.alloc (node (z 0))) w.heap.size wr.heap.size wr.heap.size (fun b => b = wr.heap.size) (fun b => b = wr.heap.size) (fun _ => z 0) (fun _ => none) (fun _ => none)) := tr_one wr w.heap.size hbr.size (z 0)
        have HB2 : Below w.heap.size w (wr.alloc (node (z 0))) := hbr.alloc hbr.size _
        go_wp2_with (first | (go_at_call 8; refine (insert_nil _ _).mono ?_; rintro e w' ⟨rfl, hw'⟩; obtain rfl := hw'))
        go_roundw
        case rel => exact ⟨0 + 1, by omega, by go_num, Or.inr ⟨by omega, _, _, _, _, _, _, _, rfl, HT1.out⟩, HB2⟩
        case measure => simp [intOf]; omega
      · have HTr : Hid (Tr wr w.heap.size root last nd sp key lf rt) := hTr
        clear hTr
        go_wp2_with fail
        refine (insert_any w.heap.size root last nd sp key lf rt (z k) wr HTr.out hbr.size).mono ?_
        rintro e w2 ⟨rfl, ⟨last', nd', sp', key', lf', rt', hT', _, _⟩, hb2⟩
        have HT' : Hid (Tr w2 w.heap.size root last' nd' sp' key' lf' rt') := hT'
        have HB2 := hbr.trans hb2
        clear hT' hb2 hbr c1
        go_wp2
        go_roundw
        case rel => exact ⟨k + 1, by omega, by go_num, Or.inr ⟨by omega, _, _, _, _, _, _, _, rfl, HT'.out⟩, HB2⟩
        case measure => simp [intOf]; omega
    · obtain rfl : k = n := by omega
      go_wp2
      go_ret
      exact ⟨_, rfl, hT, hbr⟩

theorem Tr.lastChain {W : World} {B root last : Nat} {nd sp : Nat → Prop} {key : Nat → Int} {lf rt : Nat → Option Nat} (h : Tr W B root last nd sp key lf rt) : Chain W last last sp rt :=
  ⟨fun b hb => h.r b (h.spnd b hb), h.lastS, h.right, h.only⟩

/-- The chain from A's root through the graft to B's last node. -/
theorem graft_chain {W : World} {B1 B2 rootA lastA rootB lastB : Nat} {ndA spA ndB spB : Nat → Prop} {keyA keyB : Nat → Int} {lfA rtA lfB rtB : Nat → Option Nat} (hA : Tr W B1 rootA lastA ndA spA keyA lfA rtA) (hB : Tr W B2 rootB lastB ndB spB keyB lfB rtB)
    (hlt : ∀ b, ndA b → b < B2) : Chain (W.setCell ⟨lastA, 6, none⟩ (.pointer (some ⟨rootB, 0, none⟩))) rootA lastB (fun b => spA b ∨ spB b) (fun b => if b = lastA then some rootB else if b < B2 then rtA b else rtB b) := by
  have lA := hlt lastA (hA.spnd _ hA.lastS)
  have far : ∀ b, b ≠ lastA → (W.setCell ⟨lastA, 6, none⟩ (.pointer (some ⟨rootB, 0, none⟩))).cell? ⟨b, 6, none⟩ = W.cell? ⟨b, 6, none⟩ := fun b hb =>
    World.cell?_setCell_other _ _ _ _ (fun e => by injection e with e1 e2; exact hb e1.symm)
  have geB : ∀ b, spB b → B2 ≤ b := fun b hb => hB.low b (hB.spnd b hb)
  have ltA : ∀ b, spA b → b < B2 := fun b hb => hlt b (hA.spnd b hb)
  refine ⟨?_, Or.inl hA.rootS, ?_, ?_⟩
  · rintro b (hb | hb)
    · by_cases e : b = lastA
      · subst e; rw [if_pos rfl]; exact World.cell?_setCell_same _ _ _ (hA.r b (hA.spnd b hb))
      · rw [if_neg e, if_pos (ltA b hb), far b e]; exact hA.r b (hA.spnd b hb)
    · have := geB b hb
      have e : b ≠ lastA := by omega
      rw [if_neg e, if_neg (by omega), far b e]; exact hB.r b (hB.spnd b hb)
  · rintro b c (hb | hb) hr
    · by_cases e : b = lastA
      · subst e; rw [if_pos rfl] at hr; cases hr
        exact ⟨Or.inr hB.rootS, by have := geB rootB hB.rootS; omega⟩
      · rw [if_neg e, if_pos (ltA b hb)] at hr
        obtain ⟨h1, h2⟩ := hA.right b c hb hr
        exact ⟨Or.inl h1, h2⟩
    · have := geB b hb
      rw [if_neg (by omega), if_neg (by omega)] at hr
      obtain ⟨h1, h2⟩ := hB.right b c hb hr
      exact ⟨Or.inr h1, h2⟩
  · rintro b (hb | hb) hr
    · by_cases e : b = lastA
      · subst e; rw [if_pos rfl] at hr; cases hr
      · rw [if_neg e, if_pos (ltA b hb)] at hr
        exact absurd (hA.only b hb hr) e
    · have := geB b hb
      rw [if_neg (by omega), if_neg (by omega)] at hr
      exact hB.only b hb hr

/-- Nothing is hung: the chain stands. -/
theorem bare_chain {W : World} {B1 rootA lastA : Nat} {ndA spA : Nat → Prop} {keyA : Nat → Int} {lfA rtA : Nat → Option Nat} (hA : Tr W B1 rootA lastA ndA spA keyA lfA rtA) : Chain (W.setCell ⟨lastA, 6, none⟩ (.pointer none)) rootA lastA spA rtA := by
  refine ⟨fun b hb => ?_, hA.rootS, hA.right, hA.only⟩
  by_cases e : b = lastA
  · subst e
    rw [hA.lastr]
    exact World.cell?_setCell_same _ _ _ (hA.r b (hA.spnd b hb))
  · rw [World.cell?_setCell_other _ _ _ _ (fun h => by injection h with e1 e2; exact e e1.symm)]
    exact hA.r b (hA.spnd b hb)

theorem bytes11_yes (a a' : Option Addr) (n c n' c' : Nat) (w : World) (h : n + n' ≤ 1048576) :
    Calls Trym.prog 11 #[.slice a n c, .slice a' n' c'] w fun e w' => e = .returned (.bool true) ∧ w' = w := by
  go_enter Trym.func11, Trym.ntmps11
  go_wp2
  go_ret
  exact ⟨rfl, rfl⟩

theorem bytes11_no (a a' : Option Addr) (n c n' c' : Nat) (w : World) (h : 1048576 < n + n') :
    Calls Trym.prog 11 #[.slice a n c, .slice a' n' c'] w fun e w' => e = .returned (.bool false) ∧ w' = w := by
  by_cases h1 : n ≤ 1048576
  · by_cases h2 : n' ≤ 1048576
    · go_enter Trym.func11, Trym.ntmps11
      go_wp2
      go_ret
      exact ⟨rfl, rfl⟩
    · go_enter Trym.func11, Trym.ntmps11
      go_wp2
      go_ret
      exact ⟨rfl, rfl⟩
  · go_enter Trym.func11, Trym.ntmps11
    go_wp2
    go_ret
    exact ⟨rfl, rfl⟩

theorem l3_long (a a' : Option Addr) (n c n' c' : Nat) (w : World) (hn : 4096 < n ∨ 4096 < n') :
    Calls Trym.prog 4 #[.slice a n c, .slice a' n' c'] w fun e w' => e = .returned (.bool true) ∧ Below w.heap.size w w' := by
  by_cases hb : 1048576 < n + n'
  · go_enter Trym.func4, Trym.ntmps4
    go_wp2_with (first | (go_at_call 11; refine (bytes11_no _ _ _ _ _ _ _ (by omega)).mono ?_; rintro e w' ⟨rfl, rfl⟩))
    go_ret
    exact ⟨rfl, Below.refl _ _⟩
  by_cases h1 : 4096 < n
  · have d1 : decide (4096 < (n : Int)) = true := decide_eq_true (by omega)
    clear hn
    go_enter Trym.func4, Trym.ntmps4
    go_wp2_with (first | (go_at_call 11; refine (bytes11_yes _ _ _ _ _ _ _ (by omega)).mono ?_; rintro e w' ⟨rfl, rfl⟩))
    go_ret
    exact ⟨rfl, Below.refl _ _⟩
  · have d1 : decide (4096 < (n : Int)) = false := decide_eq_false (by omega)
    have d2 : decide (4096 < (n' : Int)) = true := decide_eq_true (by omega)
    clear hn
    go_enter Trym.func4, Trym.ntmps4
    go_wp2_with (first | (go_at_call 11; refine (bytes11_yes _ _ _ _ _ _ _ (by omega)).mono ?_; rintro e w' ⟨rfl, rfl⟩))
    go_ret
    exact ⟨rfl, Below.refl _ _⟩

set_option maxHeartbeats 1600000 in
theorem l3_main (a a' : Option Addr) (n c n' c' : Nat) (z y : Nat → Int) (w : World) (hn : n ≤ 4096) (hn' : n' ≤ 4096) (ha : Holds w a n z) (ha' : Holds w a' n' y) :
    Calls Trym.prog 4 #[.slice a n c, .slice a' n' c'] w fun e w' => e = .returned (.bool true) ∧ Below w.heap.size w w' := by
  have HA : Hid (Holds w a n z) := ha
  have HA' : Hid (Holds w a' n' y) := ha'
  have hself := neq_self
  have hself2 := eql_self
  have d1 : decide (4096 < (n : Int)) = false := decide_eq_false (by omega)
  have d2 : decide (4096 < (n' : Int)) = false := decide_eq_false (by omega)
  clear ha ha'
  go_enter Trym.func4, Trym.ntmps4
  go_wp2_with (first | (go_at_call 11; refine (bytes11_yes _ _ _ _ _ _ _ (by omega)).mono ?_; rintro e w' ⟨rfl, hw'⟩; obtain rfl := hw'.symm; clear hw'))
  refine (copy_opt a n c z _ (by omega) HA.out).mono ?_
  rintro e w1 ⟨b, rfl, eb, kb, hb1⟩
  go_wp2_with fail
  refine (copy_opt a' n' c' y _ (by omega) (HA'.out.on hb1)).mono ?_
  rintro e w2 ⟨b', rfl, eb', kb', hb2⟩
  have E1 : Hid (0 < n → b = some ⟨w.heap.size, 0, none⟩) := eb
  have E2 : Hid (0 < n' → b' = some ⟨w1.heap.size, 0, none⟩) := eb'
  have K1 : Hid (∀ i, i < n → w2.cell? ⟨w.heap.size, i, none⟩ = some (.int .i64 (z i))) := fun i hi => cell_on hb2 (kb i hi)
  have K2 : Hid (∀ i, i < n' → w2.cell? ⟨w1.heap.size, i, none⟩ = some (.int .i64 (y i))) := kb'
  have HB2 := hb1.trans (hb2.mono hb1.size)
  clear eb eb' kb kb' HA HA'
  go_wp2_with fail
  refine (build_any b w.heap.size n n z w2 hn E1.out K1.out).mono ?_
  rintro e w3 ⟨va, rfl, hBA, hb3⟩
  have HBA : Hid (Built w3 w2.heap.size n va) := hBA
  have K2' : Hid (∀ i, i < n' → w3.cell? ⟨w1.heap.size, i, none⟩ = some (.int .i64 (y i))) := fun i hi => cell_on hb3 (K2.out i hi)
  have HB3 := HB2.trans (hb3.mono HB2.size)
  have hw2 := HB2.size
  clear hBA
  go_wp2_with fail
  refine (build_any b' w1.heap.size n' n' y w3 hn' E2.out K2'.out).mono ?_
  rintro e w4 ⟨vb, rfl, hBB, hb4⟩
  have HBB : Hid (Built w4 w3.heap.size n' vb) := hBB
  have HB4 := HB3.trans (hb4.mono HB3.size)
  clear hBB K1 K2 K2' E1 E2 HB2 hb1 hb2
  rcases HBB.out with ⟨_, rfl⟩ | ⟨_, rootB, lastB, ndB, spB, keyB, lfB, rtB, rfl, hTB⟩
  · -- B is empty
    rcases HBA.out with ⟨_, rfl⟩ | ⟨_, rootA, lastA, ndA, spA, keyA, lfA, rtA, rfl, hTA⟩
    · go_wp2_with (first | (go_at_call 7; refine (zzRightmost_nil _).mono ?_; rintro e w' ⟨rfl, hw'⟩; obtain rfl := hw'.symm; clear hw'))
      go_ret
      exact ⟨rfl, HB4⟩
    · have HA4 : Hid (Tr w4 w2.heap.size rootA lastA ndA spA keyA lfA rtA) := hTA.on hb4
      have k6 : w4.cell? ⟨lastA, 6, none⟩ = some (.pointer none) := by
        have := HA4.out.r lastA (HA4.out.spnd _ HA4.out.lastS); rw [HA4.out.lastr] at this; exact this
      have f6 := HA4.out.fr lastA (HA4.out.spnd _ HA4.out.lastS)
      have hlow : w.heap.size ≤ lastA := Nat.le_trans hw2 (HA4.out.low lastA (HA4.out.spnd _ HA4.out.lastS))
      clear hTA
      go_wp2_with fail
      refine (zzRightmost_nil w4).mono ?_
      rintro e w' ⟨rfl, hw'⟩
      obtain rfl := hw'.symm
      clear hw'
      go_wp2_with fail
      refine (zzRightmost_any rootA lastA _ _ w4 HA4.out.chain).mono ?_
      rintro e w' ⟨rfl, hw'⟩
      obtain rfl := hw'.symm
      clear hw'
      go_wp2_with fail
      refine (zzRightmost_any lastA lastA _ _ w4 HA4.out.lastChain).mono ?_
      rintro e w' ⟨rfl, hw'⟩
      obtain rfl := hw'.symm
      clear hw'
      go_wp2_with fail
      refine (right_any lastA none w4 k6).mono ?_
      rintro e w' ⟨rfl, hw'⟩
      obtain rfl := hw'.symm
      clear hw'
      go_wp2_with fail
      refine (setRight_any lastA none none w4 k6 f6).mono ?_
      rintro e w5 ⟨rfl, hw5⟩
      have HC5 : Hid (Chain w5 rootA lastA spA rtA) := by rw [hw5]; exact bare_chain HA4.out
      have HB5 : Below w.heap.size w w5 := by rw [hw5]; exact HB4.setCell hlow _
      clear hw5
      go_wp2_with fail
      refine (zzRightmost_any rootA lastA _ _ w5 HC5.out).mono ?_
      rintro e w' ⟨rfl, hw'⟩
      obtain rfl := hw'.symm
      clear hw'
      go_wp2
      go_ret
      exact ⟨rfl, HB5⟩
  · -- B is not empty
    rcases HBA.out with ⟨_, rfl⟩ | ⟨_, rootA, lastA, ndA, spA, keyA, lfA, rtA, rfl, hTA⟩
    · have HB4' : Hid (Tr w4 w3.heap.size rootB lastB ndB spB keyB lfB rtB) := hTB
      have b6 : w4.cell? ⟨lastB, 6, none⟩ = some (.pointer none) := by
        have := HB4'.out.r lastB (HB4'.out.spnd _ HB4'.out.lastS); rw [HB4'.out.lastr] at this; exact this
      clear hTB
      go_wp2_with fail
      refine (zzRightmost_any rootB lastB _ _ w4 HB4'.out.chain).mono ?_
      rintro e w' ⟨rfl, hw'⟩
      obtain rfl := hw'.symm
      clear hw'
      go_wp2_with fail
      refine (zzRightmost_any lastB lastB _ _ w4 HB4'.out.lastChain).mono ?_
      rintro e w' ⟨rfl, hw'⟩
      obtain rfl := hw'.symm
      clear hw'
      go_wp2_with fail
      refine (right_any lastB none w4 b6).mono ?_
      rintro e w' ⟨rfl, hw'⟩
      obtain rfl := hw'.symm
      clear hw'
      go_wp2_with fail
      refine (zzRightmost_nil w4).mono ?_
      rintro e w' ⟨rfl, hw'⟩
      obtain rfl := hw'.symm
      clear hw'
      go_wp2
      go_ret
      exact ⟨rfl, HB4⟩
    · have hAlt : Hid (∀ b, ndA b → b < w3.heap.size) := fun b hb => hTA.lt hb
      have HA4 : Hid (Tr w4 w2.heap.size rootA lastA ndA spA keyA lfA rtA) := hTA.on hb4
      have k6 : w4.cell? ⟨lastA, 6, none⟩ = some (.pointer none) := by
        have := HA4.out.r lastA (HA4.out.spnd _ HA4.out.lastS); rw [HA4.out.lastr] at this; exact this
      have f6 := HA4.out.fr lastA (HA4.out.spnd _ HA4.out.lastS)
      have hlow : w.heap.size ≤ lastA := Nat.le_trans hw2 (HA4.out.low lastA (HA4.out.spnd _ HA4.out.lastS))
      clear hTA
      have HB4' : Hid (Tr w4 w3.heap.size rootB lastB ndB spB keyB lfB rtB) := hTB
      have b6 : w4.cell? ⟨lastB, 6, none⟩ = some (.pointer none) := by
        have := HB4'.out.r lastB (HB4'.out.spnd _ HB4'.out.lastS); rw [HB4'.out.lastr] at this; exact this
      clear hTB
      go_wp2_with fail
      refine (zzRightmost_any rootB lastB _ _ w4 HB4'.out.chain).mono ?_
      rintro e w' ⟨rfl, hw'⟩
      obtain rfl := hw'.symm
      clear hw'
      go_wp2_with fail
      refine (zzRightmost_any lastB lastB _ _ w4 HB4'.out.lastChain).mono ?_
      rintro e w' ⟨rfl, hw'⟩
      obtain rfl := hw'.symm
      clear hw'
      go_wp2_with fail
      refine (right_any lastB none w4 b6).mono ?_
      rintro e w' ⟨rfl, hw'⟩
      obtain rfl := hw'.symm
      clear hw'
      go_wp2_with fail
      refine (zzRightmost_any rootA lastA _ _ w4 HA4.out.chain).mono ?_
      rintro e w' ⟨rfl, hw'⟩
      obtain rfl := hw'.symm
      clear hw'
      go_wp2_with fail
      refine (zzRightmost_any lastA lastA _ _ w4 HA4.out.lastChain).mono ?_
      rintro e w' ⟨rfl, hw'⟩
      obtain rfl := hw'.symm
      clear hw'
      go_wp2_with fail
      refine (right_any lastA none w4 k6).mono ?_
      rintro e w' ⟨rfl, hw'⟩
      obtain rfl := hw'.symm
      clear hw'
      go_wp2_with fail
      refine (setRight_any lastA none (some ⟨rootB, 0, none⟩) w4 k6 f6).mono ?_
      rintro e w5 ⟨rfl, hw5⟩
      have HC5 : Hid (Chain w5 rootA lastB (fun b => spA b ∨ spB b) (fun b => if b = lastA then some rootB else if b < w3.heap.size then rtA b else rtB b)) := by rw [hw5]; exact graft_chain HA4.out HB4'.out hAlt.out
      have HB5 : Below w.heap.size w w5 := by rw [hw5]; exact HB4.setCell hlow _
      clear hw5
      go_wp2_with fail
      refine (zzRightmost_any rootA lastB _ _ w5 HC5.out).mono ?_
      rintro e w' ⟨rfl, hw'⟩
      obtain rfl := hw'.symm
      clear hw'
      go_wp2
      go_ret
      exact ⟨rfl, HB5⟩

end Go.Proofs.Qxb6001735aMods
