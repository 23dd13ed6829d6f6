import Derived.Test.Qxb6001730aModsL1
import Derived.Test.Qxb6001730aModsBits
namespace Go.Proofs.Qxb6001730aMods
open Go.RowKit

theorem ret_int {k : IntKind} {a b : Int} (h : a = b) : Ending.returned (.int k a) = .returned (.int k b) := by rw [h]

theorem or_int (F k : Nat) (hF : F < 18446744073709551616) (hk : k < 4294967296) : bits BinOp.or IntKind.u64 ((F : Int) / 4294967296 * 4294967296) (k : Int) = ((F / 4294967296 * 4294967296 + k : Nat) : Int) := by
  have := bits_or (F / 4294967296) k (by omega) hk
  rw [show ((F : Int) / 4294967296 * 4294967296) = ((F / 4294967296 * 4294967296 : Nat) : Int) by omega, this]

def SaysHas (z : Nat → Int) (n : Nat) (v : Int) (e : Ending) : Prop := ∃ r : Bool, e = .returned (.bool r) ∧ (r = true → ∃ j, j < n ∧ z j = v)

set_option maxHeartbeats 400000 in
theorem contains_any (b off n c : Nat) (v : Int) (z : Nat → Int) (w : World) (hn : n ≤ 1048576) (hc : ∀ i, i < n → w.cell? ⟨b, off + i, none⟩ = some (.int .i64 (z i))) :
    Calls Trym.prog 16 #[.slice (some ⟨b, off, none⟩) n c, .int .i64 v] w fun e w' => SaysHas z n v e ∧ Below w.heap.size w w' := by
  go_enter Trym.func16, Trym.ntmps16
  go_wp2
  go_loop [5] (fun t => ∃ k : Nat, k ≤ n ∧ t = .int .i64 k) (fun t => n - (intOf t).toNat)
  case atStart => exact ⟨0, Nat.zero_le _, rfl⟩
  case round =>
    obtain ⟨k, hk, rfl⟩ := hrel
    by_cases hlt : k < n
    · have c1 := hc k hlt
      have i1 : (k : Int) < (n : Int) := by omega
      by_cases e : z k = v
      · have e1 : (z k == v) = true := by simp [e]
        have E : Hid (z k = v) := e
        clear e
        go_wp2
        go_ret
        exact ⟨⟨true, rfl, fun _ => ⟨k, hlt, E.out⟩⟩, Below.refl _ _⟩
      · have e1 : (z k == v) = false := by simp [e]
        clear e
        go_wp2
        go_round
        case rel => exact ⟨k + 1, by omega, by go_num⟩
        case measure => simp [intOf]; omega
    · go_wp2
      go_ret
      exact ⟨⟨false, rfl, fun h => by cases h⟩, Below.refl _ _⟩

set_option maxHeartbeats 400000 in
theorem turn_any (b n c r i : Nat) (y : Value) (z : Nat → Int) (w : World) (hn : n ≤ 1048576) (hr : r < 1048576) (hi : (r : Int) % (n : Int) = (i : Int)) (hin : i < n)
    (hc : ∀ i, i < n → w.cell? ⟨b, i, none⟩ = some (.int .i64 (z i))) :
    Calls Trym.prog 35 #[.agg #[.slice (some ⟨b, 0, none⟩) n c, y], .int .u64 r] w fun e w' => e = .returned (.int .i64 (z i)) ∧ Below w.heap.size w w' := by
  have c1 := hc i hin
  have hbl : b < w.heap.size := World.block_lt_of_cell? _ _ c1
  have i1 : (i : Int) < (n : Int) := by omega
  have i2 : (0 : Int) < (n : Int) := by omega
  clear hc
  go_enter Trym.func35, Trym.ntmps35
  go_wp2
  go_quiet (fail)
  go_wp2
  go_ret
  exact ⟨rfl, below_drewN ((Below.refl _ _).alloc (Nat.le_refl _) _) _⟩

set_option maxHeartbeats 400000 in
theorem leader_any (b n c r i : Nat) (y : Value) (z : Nat → Int) (w : World) (hn : n ≤ 1048576) (hr : r < 1048576) (hi : (r : Int) % (n : Int) = (i : Int)) (hin : i < n)
    (hc : ∀ i, i < n → w.cell? ⟨b, i, none⟩ = some (.int .i64 (z i))) :
    Calls Trym.prog 31 #[.agg #[.slice (some ⟨b, 0, none⟩) n c, y], .int .u64 r] w fun e w' => e = .returned (.int .i64 (z i)) ∧ Below w.heap.size w w' := by
  have hb : ∀ o, Below w.heap.size w (w.alloc o) := fun o => (Below.refl _ _).alloc (Nat.le_refl _) o
  have HC : Hid (∀ o, ∀ i, i < n → (w.alloc o).cell? ⟨b, i, none⟩ = some (.int .i64 (z i))) := fun o i hi => cell_on (hb o) (hc i hi)
  have HI : Hid ((r : Int) % (n : Int) = (i : Int)) := hi
  have HB : Hid (∀ o, Below w.heap.size w (w.alloc o)) := hb
  clear hc hi hb
  go_enter Trym.func31, Trym.ntmps31
  go_wp2_with fail
  refine (turn_any b n c r i y z _ hn hr HI.out hin (HC.out _)).mono ?_
  rintro e w1 ⟨rfl, hb1⟩
  go_wp2
  go_ret
  exact ⟨rfl, (HB.out _).trans (hb1.mono (by simp))⟩

theorem epoch_any (F : Int) (w : World) :
    Calls Trym.prog 32 #[.int .u64 F] w fun e w' => e = .returned (.int .u64 (F / 4294967296)) ∧ w' = w := by
  go_enter Trym.func32, Trym.ntmps32
  go_wp2
  go_ret
  exact ⟨rfl, rfl⟩

set_option maxHeartbeats 800000 in
theorem switch_any (gb pb np cp rb n c F R : Nat) (z y : Nat → Int) (w : World) (hnp : np ≤ 1048576) (hn : n ≤ 65536) (hnp0 : 0 < np) (hn0 : 0 < n) (hF : F < 18446744073709551616)
    (hg0 : w.cell? ⟨gb, 0, none⟩ = some (.slice (some ⟨pb, 0, none⟩) np cp)) (hg1 : w.cell? ⟨gb, 1, none⟩ = some (.slice none 0 0))
    (hz : ∀ i, i < np → w.cell? ⟨pb, i, none⟩ = some (.int .i64 (z i))) (hy : ∀ i, i < n → w.cell? ⟨rb, i, none⟩ = some (.int .i64 (y i)))
    (hR1 : 1 ≤ R) (hR2 : R ≤ n) (hR3 : y (R % n) = z 0) (hR4 : ∀ q, 1 ≤ q → q < R → y (q % n) ≠ z 0) :
    Calls Trym.prog 17 #[.agg #[.pointer (some ⟨gb, 0, none⟩), .slice (some ⟨rb, 0, none⟩) n c, .slice none 0 0], .int .u64 F] w
      fun e w' => e = .returned (.int .u64 ((F / 4294967296 * 4294967296 + R : Nat) : Int)) ∧ Below w.heap.size w w' := by
  have hb : ∀ o, Below w.heap.size w (w.alloc o) := fun o => (Below.refl _ _).alloc (Nat.le_refl _) o
  have HB : Hid (∀ o, Below w.heap.size w (w.alloc o)) := hb
  have HZ : Hid (∀ i, i < np → w.cell? ⟨pb, i, none⟩ = some (.int .i64 (z i))) := hz
  have HY : Hid (∀ i, i < n → w.cell? ⟨rb, i, none⟩ = some (.int .i64 (y i))) := hy
  have H3 : Hid (y (R % n) = z 0) := hR3
  have H4 : Hid (∀ q, 1 ≤ q → q < R → y (q % n) ≠ z 0) := hR4
  have hgl : gb < w.heap.size := World.block_lt_of_cell? _ _ hg0
  clear hb hz hy hR3 hR4
  go_enter Trym.func17, Trym.ntmps17
  go_wp2_with fail
  refine (leader_any pb np cp 0 0 _ z _ hnp (by omega) (by simp) hnp0 (fun i hi => cell_on (HB.out _) (HZ.out i hi))).mono ?_
  rintro e w1 ⟨rfl, hb1⟩
  have HW1 : Below w.heap.size w w1 := (HB.out _).trans (hb1.mono (by simp))
  have b1 : w1.cell? ⟨w.heap.size, 1, none⟩ = some (.slice (some ⟨rb, 0, none⟩) n c) := cell_on hb1 (by simp)
  have b2 : w1.cell? ⟨w.heap.size, 2, none⟩ = some (.slice none 0 0) := cell_on hb1 (by simp)
  have hy1 : Hid (∀ i, i < n → w1.cell? ⟨rb, i, none⟩ = some (.int .i64 (y i))) := fun i hi => cell_on HW1 (HY.out i hi)
  clear hb1 HY HZ hg0 hg1
  go_wp2
  go_loopw [6] (fun t wr => ∃ k : Nat, 1 ≤ k ∧ k ≤ R ∧ t = .int .u64 k ∧ Below w1.heap.size w1 wr) (fun t _ => R - (intOf t).toNat)
  case atStart => exact ⟨1, Nat.le_refl _, hR1, rfl, Below.refl _ _⟩
  case round =>
    obtain ⟨k, hk1, hk2, rfl, hbr⟩ := hrel
    have c1 := cell_on hbr b1
    have c2 := cell_on hbr b2
    have HY2 : Hid (∀ i, i < n → wr.cell? ⟨rb, i, none⟩ = some (.int .i64 (y i))) := fun i hi => cell_on hbr (hy1.out i hi)
    go_wp2_with fail
    refine (leader_any rb n c k (k % n) _ y _ (by omega) (by omega) (Int.natCast_emod k n).symm (Nat.mod_lt _ hn0) HY2.out).mono ?_
    rintro e w2 ⟨rfl, hb2⟩
    have hb3 := hbr.trans (hb2.mono hbr.size)
    have HW2 := HW1.trans (hb3.mono HW1.size)
    clear c1 c2 HY2 hbr hb2
    by_cases e : k = R
    · have e1 : (y (k % n) != z 0) = false := by rw [e, H3.out]; simp
      subst e
      clear H4 H3 b1 b2 hy1 HB
      go_wp2_with (first | (go_at_call 32; refine (epoch_any _ _).mono ?_; rintro e w' ⟨rfl, rfl⟩))
      go_ret
      exact ⟨ret_int (or_int F k hF (by omega)), HW2⟩
    · have e1 : (y (k % n) != z 0) = true := by have := H4.out k hk1 (by omega); rw [bne_iff_ne]; exact this
      have hlt : k < R := by omega
      clear e
      go_wp2
      go_roundw
      case rel => exact ⟨k + 1, by omega, by omega, by go_num, hb3⟩
      case measure => simp [intOf]; omega

end Go.Proofs.Qxb6001730aMods
