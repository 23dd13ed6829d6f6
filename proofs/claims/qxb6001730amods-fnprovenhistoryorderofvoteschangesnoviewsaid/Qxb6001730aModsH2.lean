import Derived.Test.Qxb6001730aModsH1
import Derived.Test.Qxb6001730aModsHist
namespace Go.Proofs.Qxb6001730aMods
open Go.RowKit

theorem Trym.info23 : (Trym.prog.info? 23).map (fun i => (i.zero, i.size, i.bytes)) = some (some (.int .u64 0), 1, 8) := by kernel_rfl
theorem Trym.info72 : (Trym.prog.info? 72).map (fun i => (i.zero, i.size, i.bytes)) = some (some (.int .u16 0), 1, 2) := by kernel_rfl

set_option maxHeartbeats 400000 in
theorem clone64_any (b off n c : Nat) (z : Nat → Int) (w : World) (hn : n ≤ 1048576) (hc : ∀ i, i < n → w.cell? ⟨b, off + i, none⟩ = some (.int .u64 (z i))) :
    Calls Trym.prog 23 #[.slice (some ⟨b, off, none⟩) n c] w fun e w' => e = .returned (.slice (some ⟨w.heap.size, 0, none⟩) n n) ∧ w'.rowIs w.heap.size 23 n (fun i => .int .u64 (z i)) ∧ Below w.heap.size w w' := by
  have hmk := run_make_row' (P := Trym.prog) 41 23 (.int .u64 0) 8 Trym.underlying41 Trym.info23 rfl .i64 .i64 n (by omega) (by omega)
  have hnil : ∀ (w : World) (a : Option Addr) (n c n' c' : Nat), (binOp .eql 41 (.slice a n c) (.slice none n' c')).run Trym.prog w = .ok (.bool a.isNone) w := fun w a n c n' c' => Lib.run_eql_slice_nil w _ _ a n c n' c' Trym.underlying41
  go_enter Trym.func23, Trym.ntmps23
  go_wp2
  go_loopw [4] (fun i wr => ∃ k : Nat, k ≤ n ∧ i = .int .i64 k ∧ wr.rowIs w.heap.size 23 n (fun i => if i < k then .int .u64 (z i) else .int .u64 0) ∧ Below w.heap.size w wr) (fun i _ => n - (intOf i).toNat)
  case atStart => exact ⟨0, Nat.zero_le _, rfl, (World.rowIs_made w _ n 23).congr (fun i _ => by simp), (Below.refl _ _).alloc (Nat.le_refl _) _⟩
  case round =>
    obtain ⟨k, hk, rfl, hr, hb⟩ := hrel
    by_cases hlt : k < n
    · have hbl : b < w.heap.size := World.block_lt_of_cell? _ _ (hc k hlt)
      have c1 : wr.cell? ⟨b, off + k, none⟩ = some (.int .u64 (z k)) := (hb.cell (p := ⟨b, off + k, none⟩) hbl).trans (hc k hlt)
      have c2 : wr.cell? ⟨w.heap.size, k, none⟩ = some (.int .u64 0) := by rw [hr.cell hlt, if_neg (Nat.lt_irrefl _)]
      have c3 : wr.frozen? ⟨w.heap.size, k, none⟩ = false := hr.frozen k
      have i1 : (k : Int) < (n : Int) := by omega
      have HR : Hid (wr.rowIs w.heap.size 23 n (fun i => if i < k then .int .u64 (z i) else .int .u64 0)) := hr
      clear hr
      go_wp2
      go_roundw
      case rel => exact ⟨k + 1, by omega, by go_num, (HR.out.set k _).congr (fun i hi => by
        by_cases e : i = k
        · subst e; simp
        · simp only [if_neg e]; by_cases e2 : i < k
          · rw [if_pos e2, if_pos (by omega)]
          · rw [if_neg e2, if_neg (by omega)]), hb.setCell (Nat.le_refl _) _⟩
      case measure => simp [intOf]; omega
    · go_wp2
      go_ret
      exact ⟨rfl, hr.congr (fun i hi => by rw [if_pos (by omega)]), hb⟩

set_option maxHeartbeats 400000 in
theorem clone16_any (b off n c : Nat) (z : Nat → Int) (w : World) (hn : n ≤ 1048576) (hc : ∀ i, i < n → w.cell? ⟨b, off + i, none⟩ = some (.int .u16 (z i))) :
    Calls Trym.prog 24 #[.slice (some ⟨b, off, none⟩) n c] w fun e w' => e = .returned (.slice (some ⟨w.heap.size, 0, none⟩) n n) ∧ w'.rowIs w.heap.size 72 n (fun i => .int .u16 (z i)) ∧ Below w.heap.size w w' := by
  have hmk := run_make_row' (P := Trym.prog) 42 72 (.int .u16 0) 2 Trym.underlying42 Trym.info72 rfl .i64 .i64 n (by omega) (by omega)
  have hnil : ∀ (w : World) (a : Option Addr) (n c n' c' : Nat), (binOp .eql 42 (.slice a n c) (.slice none n' c')).run Trym.prog w = .ok (.bool a.isNone) w := fun w a n c n' c' => Lib.run_eql_slice_nil w _ _ a n c n' c' Trym.underlying42
  go_enter Trym.func24, Trym.ntmps24
  go_wp2
  go_loopw [4] (fun i wr => ∃ k : Nat, k ≤ n ∧ i = .int .i64 k ∧ wr.rowIs w.heap.size 72 n (fun i => if i < k then .int .u16 (z i) else .int .u16 0) ∧ Below w.heap.size w wr) (fun i _ => n - (intOf i).toNat)
  case atStart => exact ⟨0, Nat.zero_le _, rfl, (World.rowIs_made w _ n 72).congr (fun i _ => by simp), (Below.refl _ _).alloc (Nat.le_refl _) _⟩
  case round =>
    obtain ⟨k, hk, rfl, hr, hb⟩ := hrel
    by_cases hlt : k < n
    · have hbl : b < w.heap.size := World.block_lt_of_cell? _ _ (hc k hlt)
      have c1 : wr.cell? ⟨b, off + k, none⟩ = some (.int .u16 (z k)) := (hb.cell (p := ⟨b, off + k, none⟩) hbl).trans (hc k hlt)
      have c2 : wr.cell? ⟨w.heap.size, k, none⟩ = some (.int .u16 0) := by rw [hr.cell hlt, if_neg (Nat.lt_irrefl _)]
      have c3 : wr.frozen? ⟨w.heap.size, k, none⟩ = false := hr.frozen k
      have i1 : (k : Int) < (n : Int) := by omega
      have HR : Hid (wr.rowIs w.heap.size 72 n (fun i => if i < k then .int .u16 (z i) else .int .u16 0)) := hr
      clear hr
      go_wp2
      go_roundw
      case rel => exact ⟨k + 1, by omega, by go_num, (HR.out.set k _).congr (fun i hi => by
        by_cases e : i = k
        · subst e; simp
        · simp only [if_neg e]; by_cases e2 : i < k
          · rw [if_pos e2, if_pos (by omega)]
          · rw [if_neg e2, if_neg (by omega)]), hb.setCell (Nat.le_refl _) _⟩
      case measure => simp [intOf]; omega
    · go_wp2
      go_ret
      exact ⟨rfl, hr.congr (fun i hi => by rw [if_pos (by omega)]), hb⟩

set_option maxHeartbeats 400000 in
theorem seqs_any (b off n c : Nat) (z : Nat → Int) (w : World) (hn : n ≤ 1048576) (hc : ∀ i, i < n → w.cell? ⟨b, off + i, none⟩ = some (.int .u64 (z i))) :
    Calls Trym.prog 28 #[.slice (some ⟨b, off, none⟩) n c] w fun e w' => e = .returned (.int .i64 (Pl.dcnt z n : Nat)) ∧ Below w.heap.size w w' := by
  go_enter Trym.func28, Trym.ntmps28
  go_wp2
  go_loopw [3, 4] (fun t i wr => ∃ k : Nat, k ≤ n ∧ i = .int .i64 k ∧ t = .int .i64 (Pl.dcnt z k : Nat) ∧ Below w.heap.size w wr) (fun _ i _ => n - (intOf i).toNat)
  case atStart => exact ⟨0, Nat.zero_le _, rfl, rfl, Below.refl _ _⟩
  case round =>
    obtain ⟨k, hk, rfl, rfl, hb⟩ := hrel
    have hle : Pl.dcnt z k ≤ k := Pl.cnt_le _ k
    have hsu : Hid (Pl.dcnt z (k + 1) = Pl.dcnt z k + if Pl.noneB z (z k) k then 1 else 0) := rfl
    by_cases hlt : k < n
    · obtain ⟨wo, rfl⟩ : ∃ wo : World, wo = wr := ⟨_, rfl⟩
      generalize hD : Pl.dcnt z k = D at hle hsu ⊢
      clear hD
      go_wp2
      go_loopw [5, 6] (fun f j wr => ∃ m : Nat, m ≤ k ∧ j = .int .i64 m ∧ f = .bool (Pl.noneB z (z k) m) ∧ Below w.heap.size w wr) (fun _ j _ => k - (intOf j).toNat)
      case atStart => exact ⟨0, Nat.zero_le _, rfl, rfl, hb⟩
      case round =>
        obtain ⟨m, hm, rfl, rfl, hb2⟩ := hrel
        by_cases hmk : m < k
        · have hbl : b < w.heap.size := World.block_lt_of_cell? _ _ (hc k hlt)
          have c1 : wr.cell? ⟨b, off + k, none⟩ = some (.int .u64 (z k)) := (hb2.cell (p := ⟨b, off + k, none⟩) hbl).trans (hc k hlt)
          have c2 : wr.cell? ⟨b, off + m, none⟩ = some (.int .u64 (z m)) := (hb2.cell (p := ⟨b, off + m, none⟩) hbl).trans (hc m (by omega))
          have i1 : (k : Int) < (n : Int) := by omega
          have i2 : (m : Int) < (n : Int) := by omega
          have hs2 : Hid (Pl.noneB z (z k) (m + 1) = (Pl.noneB z (z k) m && !(z m == z k))) := rfl
          by_cases he : z m = z k
          · have e1 : (z m == z k) = true := by simp [he]
            have E1 : Hid ((z m == z k) = true) := e1
            clear he
            go_wp2
            go_quiet (fail)
            go_wp2
            go_roundw
            case rel => exact ⟨m + 1, by omega, by go_num, by rw [hs2.out, E1.out]; simp, below_drewN hb2 _⟩
            case measure => simp [intOf]; omega
          · have e1 : (z m == z k) = false := by simp [he]
            have E1 : Hid ((z m == z k) = false) := e1
            clear he
            go_wp2
            go_quiet (fail)
            go_wp2
            go_roundw
            case rel => exact ⟨m + 1, by omega, by go_num, by rw [hs2.out, E1.out]; simp, below_drewN hb2 _⟩
            case measure => simp [intOf]; omega
        · obtain rfl : m = k := by omega
          cases hw : Pl.noneB z (z m) m
          · have HWH : Hid (Pl.noneB z (z m) m = false) := hw
            go_wp2
            go_roundw
            case rel => exact ⟨m + 1, by omega, by go_num, by rw [hsu.out, HWH.out]; rfl, hb2⟩
            case measure => simp [intOf]; omega
          · have HWH : Hid (Pl.noneB z (z m) m = true) := hw
            go_wp2
            go_roundw
            case rel => exact ⟨m + 1, by omega, by go_num, by rw [hsu.out, HWH.out]; go_num, hb2⟩
            case measure => simp [intOf]; omega
    · obtain rfl : k = n := by omega
      go_wp2
      go_ret
      exact ⟨rfl, hb⟩

end Go.Proofs.Qxb6001730aMods
