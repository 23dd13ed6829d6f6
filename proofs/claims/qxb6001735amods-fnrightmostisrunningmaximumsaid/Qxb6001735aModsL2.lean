import Derived.Test.Qxb6001735aModsL1
namespace Go.Proofs.Qxb6001735aMods
open Go.RowKit

/-- The tree of the keys so far, and their greatest. -/
def Full (wr : World) (B : Nat) (rootV maxV : Value) : Prop :=
  ∃ root last nd sp key lf rt M, rootV = .pointer (some ⟨root, 0, none⟩) ∧ maxV = .int .i64 M ∧ Tr wr B root last nd sp key lf rt ∧ key last = M ∧ ∀ b, sp b → key b ≤ M

theorem full_one (W : World) (B : Nat) (hB : B ≤ W.heap.size) (k : Int) : Full (W.alloc (node k)) B (.pointer (some ⟨W.heap.size, 0, none⟩)) (.int .i64 k) :=
  ⟨_, _, _, _, _, _, _, k, rfl, rfl, tr_one W B hB k, rfl, fun _ _ => Int.le_refl _⟩

theorem l1_long (a : Option Addr) (n c : Nat) (w : World) (hn : 4096 < n) :
    Calls Trym.prog 3 #[.slice a n c] w fun e w' => e = .returned (.bool true) ∧ Below w.heap.size w w' := by
  by_cases h1 : n ≤ 1048576
  · go_enter Trym.func3, Trym.ntmps3
    go_wp2_with (first | (go_at_call 5; refine (bytes5_yes _ _ _ _ (by omega)).mono ?_; rintro e w' ⟨rfl, rfl⟩))
    go_ret
    exact ⟨rfl, Below.refl _ _⟩
  · go_enter Trym.func3, Trym.ntmps3
    go_wp2_with (first | (go_at_call 5; refine (bytes5_no _ _ _ _ (by omega)).mono ?_; rintro e w' ⟨rfl, rfl⟩))
    go_ret
    exact ⟨rfl, Below.refl _ _⟩

set_option maxHeartbeats 800000 in
theorem l1_main (a : Option Addr) (n c : Nat) (z : Nat → Int) (w : World) (hn : n ≤ 4096) (ha : Holds w a n z) :
    Calls Trym.prog 3 #[.slice a n c] w fun e w' => e = .returned (.bool true) ∧ Below w.heap.size w w' := by
  have HA : Hid (Holds w a n z) := ha
  have hself := neq_self
  clear ha
  go_enter Trym.func3, Trym.ntmps3
  go_wp2_with (first | (go_at_call 5; refine (bytes5_yes _ _ _ _ (by omega)).mono ?_; rintro e w' ⟨rfl, hw'⟩; obtain rfl := hw'.symm; clear hw'))
  refine (copy_opt a n c z _ (by omega) HA.out).mono ?_
  rintro e w1 ⟨a', rfl, ea, kc, hb1⟩
  have EA : Hid (0 < n → a' = some ⟨w.heap.size, 0, none⟩) := ea
  have KC : Hid (∀ i, i < n → w1.cell? ⟨w.heap.size, i, none⟩ = some (.int .i64 (z i))) := kc
  clear ea kc HA
  go_wp2_with (first | (go_at_call 7; refine (zzRightmost_nil _).mono ?_; rintro e w' ⟨rfl, hw'⟩; obtain rfl := hw'.symm; clear hw'))
  go_loopw [3, 4, 5] (fun r m i wr => ∃ k : Nat, k ≤ n ∧ i = .int .i64 k ∧ ((k = 0 ∧ r = .pointer none ∧ m = .int .i64 0) ∨ (0 < k ∧ Full wr w1.heap.size r m)) ∧ Below w1.heap.size w1 wr) (fun _ _ i _ => n - (intOf i).toNat)
  case atStart => exact ⟨0, Nat.zero_le _, rfl, Or.inl ⟨rfl, rfl, rfl⟩, Below.refl _ _⟩
  case round =>
    obtain ⟨k, hk, rfl, hT, hbr⟩ := hrel
    by_cases hlt : k < n
    · obtain rfl := EA.out (by omega)
      have c1 := cell_on hbr (KC.out k hlt)
      have i1 : (k : Int) < (n : Int) := by omega
      rcases hT with ⟨rfl, rfl, rfl⟩ | ⟨hk0, root, last, nd, sp, key, lf, rt, M, rfl, rfl, hTr, hM, hle⟩
      · -- the first key
        have HT1 : Hid (Tr (wr.alloc (node (z 0))) w1.heap.size wr.heap.size wr.heap.size (fun b => b = wr.heap.size) (fun b => b = wr.heap.size) (fun _ => z 0) (fun _ => none) (fun _ => none)) := tr_one wr w1.heap.size hbr.size (z 0)
        have HB2 : Below w1.heap.size w1 (wr.alloc (node (z 0))) := hbr.alloc hbr.size _
        go_wp2_with (first | (go_at_call 8; refine (insert_nil _ _).mono ?_; rintro e w' ⟨rfl, hw'⟩; obtain rfl := hw'))
        generalize wr.alloc (node (z 0)) = w2 at HT1 HB2 ⊢
        generalize wr.heap.size = nb at HT1 ⊢
        refine (zzRightmost_any nb nb _ _ w2 HT1.out.chain).mono ?_
        rintro e w' ⟨rfl, hw'⟩
        obtain rfl := hw'.symm
        clear hw'
        have k0 : w2.cell? ⟨nb, 0, none⟩ = some (.int .i64 (z 0)) := HT1.out.k nb rfl
        have k6 : w2.cell? ⟨nb, 6, none⟩ = some (.pointer none) := HT1.out.r nb rfl
        go_wp2_with (first
          | (go_at_call 9; refine (first_any nb (z 0) _ k0).mono ?_; rintro e w' ⟨rfl, hw'⟩; obtain rfl := hw'.symm; clear hw')
          | (go_at_call 10; refine (right_any nb none _ k6).mono ?_; rintro e w' ⟨rfl, hw'⟩; obtain rfl := hw'.symm; clear hw'))
        go_roundw
        case rel => exact ⟨0 + 1, by omega, by go_num, Or.inr ⟨by omega, nb, nb, _, _, _, _, _, z 0, rfl, rfl, HT1.out, rfl, fun _ _ => Int.le_refl _⟩, HB2⟩
        case measure => simp [intOf]; omega
      · -- one key more
        have HTr : Hid (Tr wr w1.heap.size root last nd sp key lf rt) := hTr
        have HM : Hid (key last = M) := hM
        have HLE : Hid (∀ b, sp b → key b ≤ M) := hle
        clear hTr hM hle
        have d0 : ((k : Int) == 0) = false := by simp; omega
        go_wp2_with fail
        refine (insert_any w1.heap.size root last nd sp key lf rt (z k) wr HTr.out hbr.size).mono ?_
        rintro e w2 ⟨rfl, ⟨last', nd', sp', key', lf', rt', hT', hkey, hout⟩, hb2⟩
        have HT' : Hid (Tr w2 w1.heap.size root last' nd' sp' key' lf' rt') := hT'
        have HKEY : Hid (∀ b, sp b → key' b = key b) := hkey
        have HB2 := hbr.trans hb2
        have k6 : w2.cell? ⟨last', 6, none⟩ = some (.pointer none) := by
          have := HT'.out.r last' (HT'.out.spnd _ HT'.out.lastS); rw [HT'.out.lastr] at this; exact this
        have k0 := HT'.out.k last' (HT'.out.spnd _ HT'.out.lastS)
        clear hT' hkey hb2 hbr c1
        rcases hout with ⟨h1, h2, h3, h4⟩ | ⟨h1, h2, h4⟩
        · -- it is the greatest
          subst h1
          have d1 : decide (M ≤ z k) = true := decide_eq_true (by rw [← HM.out]; exact h2)
          have H4 : Hid (∀ b, sp' b → sp b ∨ b = wr.heap.size) := h4
          have H3 : Hid (key' wr.heap.size = z k) := h3
          have H2 : Hid (M ≤ z k) := by show M ≤ z k; rw [← HM.out]; exact h2
          rw [h3] at k0
          clear h2 h3 h4
          go_wp2_with fail
          refine (zzRightmost_any root wr.heap.size _ _ w2 HT'.out.chain).mono ?_
          rintro e w' ⟨rfl, hw'⟩
          obtain rfl := hw'.symm
          clear hw'
          go_wp2_with (first
            | (go_at_call 9; refine (first_any wr.heap.size (z k) _ k0).mono ?_; rintro e w' ⟨rfl, hw'⟩; obtain rfl := hw'.symm; clear hw')
            | (go_at_call 10; refine (right_any wr.heap.size none _ k6).mono ?_; rintro e w' ⟨rfl, hw'⟩; obtain rfl := hw'.symm; clear hw'))
          go_roundw
          case rel => exact ⟨k + 1, by omega, by go_num, Or.inr ⟨by omega, root, wr.heap.size, _, _, _, _, _, z k, rfl, rfl, HT'.out, H3.out, fun b hb => by
            rcases H4.out b hb with h | h
            · rw [HKEY.out b h]; exact Int.le_trans (HLE.out b h) H2.out
            · rw [h, H3.out]; exact Int.le_refl _⟩, HB2⟩
          case measure => simp [intOf]; omega
        · -- it is not
          subst h1
          have hlt2 : z k < M := by
            obtain ⟨b, hb, hkb⟩ := h2
            have := HLE.out b hb; omega
          have d1 : decide (M ≤ z k) = false := decide_eq_false (by omega)
          have H4 : Hid (∀ b, sp' b → sp b) := h4
          have H3 : Hid (key' last' = M) := by show key' last' = M; rw [HKEY.out _ HTr.out.lastS]; exact HM.out
          rw [H3.out] at k0
          clear h2 h4 hlt2
          go_wp2_with fail
          refine (zzRightmost_any root last' _ _ w2 HT'.out.chain).mono ?_
          rintro e w' ⟨rfl, hw'⟩
          obtain rfl := hw'.symm
          clear hw'
          go_wp2_with (first
            | (go_at_call 9; refine (first_any last' M _ k0).mono ?_; rintro e w' ⟨rfl, hw'⟩; obtain rfl := hw'.symm; clear hw')
            | (go_at_call 10; refine (right_any last' none _ k6).mono ?_; rintro e w' ⟨rfl, hw'⟩; obtain rfl := hw'.symm; clear hw'))
          go_roundw
          case rel => exact ⟨k + 1, by omega, by go_num, Or.inr ⟨by omega, root, last', _, _, _, _, _, M, rfl, rfl, HT'.out, H3.out, fun b hb => by
            rw [HKEY.out b (H4.out b hb)]; exact HLE.out b (H4.out b hb)⟩, HB2⟩
          case measure => simp [intOf]; omega
    · go_wp2
      go_ret
      exact ⟨rfl, hb1.trans (hbr.mono hb1.size)⟩

end Go.Proofs.Qxb6001735aMods
