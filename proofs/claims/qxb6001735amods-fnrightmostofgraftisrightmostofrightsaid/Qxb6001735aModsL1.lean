import Derived.Test.Qxb6001735aModsSh2
import Derived.LaidEqlPtr
namespace Go.Proofs.Qxb6001735aMods
open Go.RowKit

theorem Trym.info2 : (Trym.prog.info? 2).map (fun i => (i.zero, i.size, i.bytes)) = some (some (.int .i64 0), 1, 8) := by kernel_rfl

theorem Trym.info40 : (Trym.prog.info? 40).isSome = true := by kernel_rfl

/-- A pointer compared with itself. -/
theorem eql_self (a : Addr) (w : World) : (binOp .eql 25 (.pointer (some a)) (.pointer (some a))).run Trym.prog w = .ok (.bool true) w := by
  obtain ⟨j, hj⟩ := Option.isSome_iff_exists.1 Trym.info40
  exact run_eql_ptr_same w a Trym.underlying25 hj

theorem neq_self (a : Addr) (w : World) : (binOp .neq 25 (.pointer (some a)) (.pointer (some a))).run Trym.prog w = .ok (.bool false) w := by
  obtain ⟨j, hj⟩ := Option.isSome_iff_exists.1 Trym.info40
  have h : ∀ d : Nat, (Op.equalIn (d + 1) 25 (.pointer (some a)) (.pointer (some a))).run Trym.prog w = .ok true w := fun d => by
    simp [Op.equalIn, run_underlying Trym.underlying25, sizeOf, typeInfo, hj, run_sameAddr_same]
  simp only [binOp]
  simp [Op.equal, Op.maxDepth, h 9999]

theorem bytes5_yes (a : Option Addr) (n c : Nat) (w : World) (h : n ≤ 1048576) :
    Calls Trym.prog 5 #[.slice a n c] w fun e w' => e = .returned (.bool true) ∧ w' = w := by
  go_enter Trym.func5, Trym.ntmps5
  go_wp2
  go_ret
  exact ⟨rfl, rfl⟩

theorem bytes5_no (a : Option Addr) (n c : Nat) (w : World) (h : 1048576 < n) :
    Calls Trym.prog 5 #[.slice a n c] w fun e w' => e = .returned (.bool false) ∧ w' = w := by
  go_enter Trym.func5, Trym.ntmps5
  go_wp2
  go_ret
  exact ⟨rfl, rfl⟩

set_option maxHeartbeats 400000 in
theorem copy_any (b off n c : Nat) (z : Nat → Int) (w : World) (hn : n ≤ 1048576) (hc : ∀ i, i < n → w.cell? ⟨b, off + i, none⟩ = some (.int .i64 (z i))) :
    Calls Trym.prog 6 #[.slice (some ⟨b, off, none⟩) n c] w fun e w' => e = .returned (.slice (some ⟨w.heap.size, 0, none⟩) n n) ∧ w'.rowIs w.heap.size 2 n (fun i => .int .i64 (z i)) ∧ Below w.heap.size w w' := by
  have hmk := run_make_row' (P := Trym.prog) 22 2 (.int .i64 0) 8 Trym.underlying22 Trym.info2 rfl .i64 .i64 n (by omega) (by omega)
  have hnil : ∀ (w : World) (a : Option Addr) (n c n' c' : Nat), (binOp .eql 22 (.slice a n c) (.slice none n' c')).run Trym.prog w = .ok (.bool a.isNone) w := fun w a n c n' c' => Lib.run_eql_slice_nil w _ _ a n c n' c' Trym.underlying22
  go_enter Trym.func6, Trym.ntmps6
  go_wp2
  go_loopw [4] (fun i wr => ∃ k : Nat, k ≤ n ∧ i = .int .i64 k ∧ wr.rowIs w.heap.size 2 n (fun i => if i < k then .int .i64 (z i) else .int .i64 0) ∧ Below w.heap.size w wr) (fun i _ => n - (intOf i).toNat)
  case atStart => exact ⟨0, Nat.zero_le _, rfl, (World.rowIs_made w _ n 2).congr (fun i _ => by simp), (Below.refl _ _).alloc (Nat.le_refl _) _⟩
  case round =>
    obtain ⟨k, hk, rfl, hr, hb⟩ := hrel
    by_cases hlt : k < n
    · have hbl : b < w.heap.size := World.block_lt_of_cell? _ _ (hc k hlt)
      have c1 : wr.cell? ⟨b, off + k, none⟩ = some (.int .i64 (z k)) := (hb.cell (p := ⟨b, off + k, none⟩) hbl).trans (hc k hlt)
      have c2 : wr.cell? ⟨w.heap.size, k, none⟩ = some (.int .i64 0) := by rw [hr.cell hlt, if_neg (Nat.lt_irrefl _)]
      have c3 : wr.frozen? ⟨w.heap.size, k, none⟩ = false := hr.frozen k
      have i1 : (k : Int) < (n : Int) := by omega
      have HR : Hid (wr.rowIs w.heap.size 2 n (fun i => if i < k then .int .i64 (z i) else .int .i64 0)) := hr
      clear hr
      go_wp2
      go_roundw
      case rel => exact ⟨k + 1, by omega, by go_num, (HR.out.set k _).congr (fun i hi => by
        by_cases e : i = k
        · subst e; simp
        · simp only [if_neg e]; by_cases e2 : i < k
          · rw [if_pos e2, if_pos (by omega)]
          · rw [if_neg e2, if_neg (by omega)]), hb.setCell (Nat.le_refl _) _⟩
      case measure => simp [intOf]; omega
    · go_wp2
      go_ret
      exact ⟨rfl, hr.congr (fun i hi => by rw [if_pos (by omega)]), hb⟩

/-- What a slice holds that came in, nil or not. -/
def Holds (w : World) (a : Option Addr) (n : Nat) (z : Nat → Int) : Prop := 0 < n → ∃ b off, a = some ⟨b, off, none⟩ ∧ ∀ i, i < n → w.cell? ⟨b, off + i, none⟩ = some (.int .i64 (z i))

theorem Holds.on {w w' : World} {a : Option Addr} {n : Nat} {z : Nat → Int} (h : Holds w a n z) (hb : Below w.heap.size w w') : Holds w' a n z := fun hn => by
  obtain ⟨b, off, e, hc⟩ := h hn
  exact ⟨b, off, e, fun i hi => cell_on hb (hc i hi)⟩

/-- The copy of a slice, nil or not. -/
theorem copy_opt (a : Option Addr) (n c : Nat) (z : Nat → Int) (w : World) (hn : n ≤ 1048576) (ha : Holds w a n z) :
    Calls Trym.prog 6 #[.slice a n c] w fun e w' => ∃ a', e = .returned (.slice a' n n) ∧ (0 < n → a' = some ⟨w.heap.size, 0, none⟩) ∧ (∀ i, i < n → w'.cell? ⟨w.heap.size, i, none⟩ = some (.int .i64 (z i))) ∧ Below w.heap.size w w' := by
  by_cases h0 : 0 < n
  · obtain ⟨b, off, rfl, hc⟩ := ha h0
    refine (copy_any b off n c z w hn hc).mono ?_
    rintro e w' ⟨rfl, hr, hb⟩
    exact ⟨_, rfl, fun _ => rfl, fun i hi => hr.cell hi, hb⟩
  · obtain rfl : n = 0 := by omega
    clear ha h0 hn
    have hnil : ∀ (w : World) (a : Option Addr) (n c n' c' : Nat), (binOp .eql 22 (.slice a n c) (.slice none n' c')).run Trym.prog w = .ok (.bool a.isNone) w := fun w a n c n' c' => Lib.run_eql_slice_nil w _ _ a n c n' c' Trym.underlying22
    cases a with
    | none =>
      have fin : Calls Trym.prog 6 #[.slice none 0 c] w fun e w' => e = .returned (.slice none 0 0) ∧ w' = w := by
        go_enter Trym.func6, Trym.ntmps6
        go_wp2
        go_ret
        exact ⟨rfl, rfl⟩
      refine fin.mono ?_
      rintro e w' ⟨rfl, rfl⟩
      exact ⟨none, rfl, fun h => absurd h (Nat.lt_irrefl _), fun i hi => absurd hi (Nat.not_lt_zero _), Below.refl _ _⟩
    | some x =>
      have hmk : ∀ w : World, (Instr.makeSlice 22 (.int .i64 0) (.int .i64 0)).run Trym.prog w = .ok (.slice (some ⟨w.heap.size, 0, none⟩) 0 0) (w.alloc (.cells (madeCells #[.int .i64 0] 0) 2)) := fun w => run_make_row' (P := Trym.prog) 22 2 (.int .i64 0) 8 Trym.underlying22 Trym.info2 rfl .i64 .i64 0 (by omega) (by omega) w
      have fin : Calls Trym.prog 6 #[.slice (some x) 0 c] w fun e w' => e = .returned (.slice (some ⟨w.heap.size, 0, none⟩) 0 0) ∧ Below w.heap.size w w' := by
        go_enter Trym.func6, Trym.ntmps6
        go_wp2
        go_loopw [4] (fun i wr => i = .int .i64 0 ∧ Below w.heap.size w wr) (fun _ _ => 0)
        case atStart => exact ⟨rfl, (Below.refl _ _).alloc (Nat.le_refl _) _⟩
        case round =>
          obtain ⟨rfl, hb⟩ := hrel
          go_wp2
          go_ret
          exact ⟨rfl, hb⟩
      refine fin.mono ?_
      rintro e w' ⟨rfl, hb⟩
      exact ⟨_, rfl, fun h => absurd h (Nat.lt_irrefl _), fun i hi => absurd hi (Nat.not_lt_zero _), hb⟩

end Go.Proofs.Qxb6001735aMods
