import Derived.Test.Qxb6001730aModsProg
import Derived.WalkKit
import Derived.WalkSpells
import Derived.WalkLawsBesides
import Derived.Deep.QuietTactic
import Derived.BigQuiet
import Derived.Deep.OwnRows
import Derived.Test.Qxb6001730aModsPlain
namespace Go.Proofs.Qxb6001730aMods
open Go.RowKit

theorem bytes9_yes (a : Option Addr) (n c : Nat) (x y : Int) (w : World) (h : n ≤ 1048576) :
    Calls Trym.prog 9 #[.slice a n c, .int .u64 x, .int .u64 y] w fun e w' => e = .returned (.bool true) ∧ w' = w := by
  go_enter Trym.func9, Trym.ntmps9
  go_wp2
  go_ret
  exact ⟨rfl, rfl⟩

theorem bytes9_no (a : Option Addr) (n c : Nat) (x y : Int) (w : World) (h : 1048576 < n) :
    Calls Trym.prog 9 #[.slice a n c, .int .u64 x, .int .u64 y] w fun e w' => e = .returned (.bool false) ∧ w' = w := by
  go_enter Trym.func9, Trym.ntmps9
  go_wp2
  go_ret
  exact ⟨rfl, rfl⟩

set_option maxHeartbeats 400000 in
theorem distinct_any (b off n c : Nat) (z : Nat → Int) (w : World) (hn : n ≤ 1048576) (hc : ∀ i, i < n → w.cell? ⟨b, off + i, none⟩ = some (.int .i64 (z i))) :
    Calls Trym.prog 10 #[.slice (some ⟨b, off, none⟩) n c] w fun e w' => (∃ r : Bool, e = .returned (.bool r) ∧ (r = true → ∀ p, p < n → ∀ q, q < p → z p ≠ z q)) ∧ Below w.heap.size w w' := by
  go_enter Trym.func10, Trym.ntmps10
  go_wp2
  go_loopw [3] (fun i wr => ∃ k : Nat, k ≤ n ∧ i = .int .i64 k ∧ (∀ p, p < k → ∀ q, q < p → z p ≠ z q) ∧ Below w.heap.size w wr) (fun i _ => n - (intOf i).toNat)
  case atStart => exact ⟨0, Nat.zero_le _, rfl, fun p hp => absurd hp (Nat.not_lt_zero _), Below.refl _ _⟩
  case round =>
    obtain ⟨k, hk, rfl, hd, hb⟩ := hrel
    by_cases hlt : k < n
    · have HD : Hid (∀ p, p < k → ∀ q, q < p → z p ≠ z q) := hd
      clear hd
      obtain ⟨wo, rfl⟩ : ∃ wo : World, wo = wr := ⟨_, rfl⟩
      go_wp2
      go_loopw [4] (fun j wr => ∃ m : Nat, m ≤ k ∧ j = .int .i64 m ∧ (∀ q, q < m → z k ≠ z q) ∧ Below w.heap.size w wr) (fun j _ => k - (intOf j).toNat)
      case atStart => exact ⟨0, Nat.zero_le _, rfl, fun p hp => absurd hp (Nat.not_lt_zero _), hb⟩
      case round =>
        obtain ⟨m, hm, rfl, hq, hb2⟩ := hrel
        by_cases hmk : m < k
        · have HQ : Hid (∀ q, q < m → z k ≠ z q) := hq
          clear hq
          have hbl : b < w.heap.size := World.block_lt_of_cell? _ _ (hc k hlt)
          have c1 : wr.cell? ⟨b, off + k, none⟩ = some (.int .i64 (z k)) := (hb2.cell (p := ⟨b, off + k, none⟩) hbl).trans (hc k hlt)
          have c2 : wr.cell? ⟨b, off + m, none⟩ = some (.int .i64 (z m)) := (hb2.cell (p := ⟨b, off + m, none⟩) hbl).trans (hc m (by omega))
          have i1 : (k : Int) < (n : Int) := by omega
          have i2 : (m : Int) < (n : Int) := by omega
          by_cases he : z k = z m
          · have e1 : (z k == z m) = true := by simp [he]
            clear he
            go_wp2
            go_quiet (fail)
            go_wp2
            go_ret
            exact ⟨⟨false, rfl, fun h => by cases h⟩, below_drewN hb2 _⟩
          · have e1 : (z k == z m) = false := by simp [he]
            have HE : Hid (¬ z k = z m) := he
            clear he
            go_wp2
            go_quiet (fail)
            go_wp2
            go_roundw
            case rel => exact ⟨m + 1, by omega, by go_num, fun q hq => by
              by_cases e : q = m
              · subst e; exact HE.out
              · exact HQ.out q (by omega), below_drewN hb2 _⟩
            case measure => simp [intOf]; omega
        · have em : m = k := by omega
          subst em
          have HQ : Hid (∀ q, q < m → z m ≠ z q) := hq
          clear hq
          go_wp2
          go_roundw
          case rel => exact ⟨m + 1, by omega, by go_num, fun p hp q hq => by
            by_cases e : p = m
            · subst e; exact HQ.out q hq
            · exact HD.out p (by omega) q hq, hb2⟩
          case measure => simp [intOf]; omega
    · go_wp2
      go_ret
      exact ⟨⟨true, rfl, fun _ p hp q hq => hd p (by omega) q hq⟩, hb⟩

theorem Trym.info3 : (Trym.prog.info? 3).map (fun i => (i.zero, i.size, i.bytes)) = some (some (.int .i64 0), 1, 8) := by kernel_rfl

set_option maxHeartbeats 400000 in
theorem clone_any (b off n c : Nat) (z : Nat → Int) (w : World) (hn : n ≤ 1048576) (hc : ∀ i, i < n → w.cell? ⟨b, off + i, none⟩ = some (.int .i64 (z i))) :
    Calls Trym.prog 11 #[.slice (some ⟨b, off, none⟩) n c] w fun e w' => e = .returned (.slice (some ⟨w.heap.size, 0, none⟩) n n) ∧ w'.rowIs w.heap.size 3 n (fun i => .int .i64 (z i)) ∧ Below w.heap.size w w' := by
  have hmk := run_make_row' (P := Trym.prog) 22 3 (.int .i64 0) 8 Trym.underlying22 Trym.info3 rfl .i64 .i64 n (by omega) (by omega)
  have hnil : ∀ (w : World) (a : Option Addr) (n c n' c' : Nat), (binOp .eql 22 (.slice a n c) (.slice none n' c')).run Trym.prog w = .ok (.bool a.isNone) w := fun w a n c n' c' => Lib.run_eql_slice_nil w _ _ a n c n' c' Trym.underlying22
  go_enter Trym.func11, Trym.ntmps11
  go_wp2
  go_loopw [4] (fun i wr => ∃ k : Nat, k ≤ n ∧ i = .int .i64 k ∧ wr.rowIs w.heap.size 3 n (fun i => if i < k then .int .i64 (z i) else .int .i64 0) ∧ Below w.heap.size w wr) (fun i _ => n - (intOf i).toNat)
  case atStart => exact ⟨0, Nat.zero_le _, rfl, (World.rowIs_made w _ n 3).congr (fun i _ => by simp), (Below.refl _ _).alloc (Nat.le_refl _) _⟩
  case round =>
    obtain ⟨k, hk, rfl, hr, hb⟩ := hrel
    by_cases hlt : k < n
    · have hbl : b < w.heap.size := World.block_lt_of_cell? _ _ (hc k hlt)
      have c1 : wr.cell? ⟨b, off + k, none⟩ = some (.int .i64 (z k)) := (hb.cell (p := ⟨b, off + k, none⟩) hbl).trans (hc k hlt)
      have c2 : wr.cell? ⟨w.heap.size, k, none⟩ = some (.int .i64 0) := by rw [hr.cell hlt, if_neg (Nat.lt_irrefl _)]
      have c3 : wr.frozen? ⟨w.heap.size, k, none⟩ = false := hr.frozen k
      have i1 : (k : Int) < (n : Int) := by omega
      have HR : Hid (wr.rowIs w.heap.size 3 n (fun i => if i < k then .int .i64 (z i) else .int .i64 0)) := hr
      clear hr
      go_wp2
      go_roundw
      case rel => exact ⟨k + 1, by omega, by go_num, (HR.out.set k _).congr (fun i hi => by
        by_cases e : i = k
        · subst e; simp
        · simp only [if_neg e]; by_cases e2 : i < k
          · rw [if_pos e2, if_pos (by omega)]
          · rw [if_neg e2, if_neg (by omega)]), hb.setCell (Nat.le_refl _) _⟩
      case measure => simp [intOf]; omega
    · go_wp2
      go_ret
      exact ⟨rfl, hr.congr (fun i hi => by rw [if_pos (by omega)]), hb⟩

set_option maxHeartbeats 400000 in
theorem index_any (b off n c i : Nat) (v : Int) (z : Nat → Int) (w : World) (hn : n ≤ 1048576) (hc : ∀ i, i < n → w.cell? ⟨b, off + i, none⟩ = some (.int .i64 (z i)))
    (hi : i < n) (hv : z i = v) (hq : ∀ q, q < i → z q ≠ v) :
    Calls Trym.prog 30 #[.slice (some ⟨b, off, none⟩) n c, .int .i64 v] w fun e w' => e = .returned (.int .i64 i) ∧ w' = w := by
  have HV : Hid (z i = v) := hv
  have HQ : Hid (∀ q, q < i → z q ≠ v) := hq
  clear hv hq
  go_enter Trym.func30, Trym.ntmps30
  go_wp2
  go_loop [8] (fun t => ∃ k : Nat, k ≤ i ∧ t = .int .i64 k) (fun t => n - (intOf t).toNat)
  case atStart => exact ⟨0, Nat.zero_le _, rfl⟩
  case round =>
    obtain ⟨k, hk, rfl⟩ := hrel
    have c1 := hc k (by omega)
    have i1 : (k : Int) < (n : Int) := by omega
    by_cases e : k = i
    · have e1 : (v == z k) = true := by rw [e, HV.out]; simp
      subst e
      go_wp2
      go_ret
      exact ⟨rfl, rfl⟩
    · have e1 : (v == z k) = false := by have := HQ.out k (by omega); simp; exact fun h => this h.symm
      have hki : k + 1 ≤ i := by omega
      clear e
      go_wp2
      go_round
      case rel => exact ⟨k + 1, by omega, by go_num⟩
      case measure => simp [intOf]; omega

theorem round_any (V : Int) (w : World) :
    Calls Trym.prog 33 #[.int .u64 V] w fun e w' => e = .returned (.int .u64 (bits .and .u64 V 4294967295)) ∧ w' = w := by
  go_enter Trym.func33, Trym.ntmps33
  go_wp2
  go_ret
  exact ⟨rfl, rfl⟩

/-- Groups.Mode at a saving view. -/
theorem mode_saving (gb : Addr) (V : Int) (x y : Value) (w : World) (hV : bits .and .u64 V 4294967295 = 0) :
    Calls Trym.prog 19 #[.agg #[.pointer (some gb), x, y], .int .u64 V] w fun e w' => e = .returned (.string ⟨#[115, 97, 118, 105, 110, 103]⟩) ∧ w' = w.alloc (.cells #[.pointer (some gb), x, y] 31) := by
  go_enter Trym.func19, Trym.ntmps19
  go_wp2_with (first | (go_at_call 33; refine (round_any _ _).mono ?_; rintro e w' ⟨rfl, rfl⟩))
  go_ret
  exact ⟨rfl, rfl⟩

theorem ret_bool {a b : Bool} (h : a = b) : Ending.returned (.bool a) = .returned (.bool b) := by rw [h]

theorem chk_int (m k s : Nat) (hm : 0 < m) : decide (((k : Int) + m - s) % m < (m : Int) / 2) = Pl.chk m k s := by
  have hlt : s % m < m := Nat.mod_lt _ hm
  have e : ((k : Int) + m - s) % m = (((k + m - s % m) % m : Nat) : Int) := by
    have h1 : ((k + m - s % m : Nat) : Int) = (k : Int) + m - (s : Int) % m := by omega
    rw [Int.natCast_emod, h1]; simp
  have e2 : (m : Int) / 2 = ((m / 2 : Nat) : Int) := by omega
  unfold Pl.chk
  rw [e, e2]
  simp only [Int.ofNat_lt]

theorem two_allocs {w : World} {p : Addr} {v : Value} (h : w.cell? p = some v) (o o' : Obj) : ((w.alloc o).alloc o').cell? p = some v := by
  have hl : p.block < w.heap.size := World.block_lt_of_cell? _ _ h
  rw [World.cell?_alloc_lt _ _ _ (by simp; omega), World.cell?_alloc_lt _ _ _ hl, h]

set_option maxHeartbeats 400000 in
theorem checks_lead (gb b off n c : Nat) (V S v : Int) (x y : Value) (z : Nat → Int) (w : World) (hn : n ≤ 1048576) (hn0 : 0 < n) (hc : ∀ i, i < n → w.cell? ⟨b, off + i, none⟩ = some (.int .i64 (z i)))
    (hg : w.cell? ⟨gb, 0, none⟩ = some (.slice (some ⟨b, off, none⟩) n c)) (hV : bits .and .u64 V 4294967295 = 0) (hv : z 0 = v) :
    Calls Trym.prog 13 #[.agg #[.pointer (some ⟨gb, 0, none⟩), x, y], .int .i64 v, .int .u64 V, .int .u64 S] w fun e w' => e = .returned (.bool true) ∧ Below w.heap.size w w' := by
  have HV : Hid (z 0 = v) := hv
  clear hv
  have HC : Hid (∀ i, i < n → w.cell? ⟨b, off + i, none⟩ = some (.int .i64 (z i))) := hc
  have hgl : gb < w.heap.size := World.block_lt_of_cell? _ _ hg
  clear hc
  go_enter Trym.func13, Trym.ntmps13
  go_wp2_with (first | (go_at_call 19; refine (mode_saving _ _ _ _ _ hV).mono ?_; rintro e w' ⟨rfl, rfl⟩))
  refine (index_any b off n c 0 v z _ hn (fun i hi => two_allocs (HC.out i hi) _ _) hn0 HV.out (fun q hq => absurd hq (Nat.not_lt_zero _))).mono ?_
  rintro e w' ⟨rfl, rfl⟩
  go_wp2
  go_ret
  exact ⟨rfl, ((Below.refl _ _).alloc (Nat.le_refl _) _).alloc (by simp) _⟩

set_option maxHeartbeats 400000 in
theorem checks_foll (gb b off m c k s : Nat) (V v : Int) (x y : Value) (z : Nat → Int) (w : World) (hn : m + 1 ≤ 1048576) (hk : k < m) (hs : s < 18446744073709551616) (hc : ∀ i, i < m + 1 → w.cell? ⟨b, off + i, none⟩ = some (.int .i64 (z i)))
    (hg : w.cell? ⟨gb, 0, none⟩ = some (.slice (some ⟨b, off, none⟩) (m + 1) c)) (hV : bits .and .u64 V 4294967295 = 0) (hv : z (k + 1) = v) (hq : ∀ q, q < k + 1 → z q ≠ v) :
    Calls Trym.prog 13 #[.agg #[.pointer (some ⟨gb, 0, none⟩), x, y], .int .i64 v, .int .u64 V, .int .u64 s] w fun e w' => e = .returned (.bool (Pl.chk m k s)) ∧ Below w.heap.size w w' := by
  have HV : Hid (z (k + 1) = v) := hv
  clear hv
  have HQ : Hid (∀ q, q < k + 1 → z q ≠ v) := hq
  clear hq
  have HC : Hid (∀ i, i < m + 1 → w.cell? ⟨b, off + i, none⟩ = some (.int .i64 (z i))) := hc
  have hgl : gb < w.heap.size := World.block_lt_of_cell? _ _ hg
  clear hc
  go_enter Trym.func13, Trym.ntmps13
  go_wp2_with (first | (go_at_call 19; refine (mode_saving _ _ _ _ _ hV).mono ?_; rintro e w' ⟨rfl, rfl⟩))
  refine (index_any b off (m + 1) c (k + 1) v z _ hn (fun i hi => two_allocs (HC.out i hi) _ _) (by omega) HV.out HQ.out).mono ?_
  rintro e w' ⟨rfl, rfl⟩
  have hlt : s % m < m := Nat.mod_lt _ (by omega)
  go_wp2
  go_ret
  exact ⟨ret_bool (chk_int m k s (by omega)), ((Below.refl _ _).alloc (Nat.le_refl _) _).alloc (by simp) _⟩

set_option maxHeartbeats 400000 in
theorem groups_any (a a' : Option Addr) (n c n' c' : Nat) (w : World) :
    Calls Trym.prog 12 #[.slice a n c, .slice a' n' c'] w fun e w' => e = .returned (.agg #[.pointer (some ⟨w.heap.size + 1, 0, none⟩), .slice a' n' c', .slice none 0 0]) ∧ w'.cell? ⟨w.heap.size + 1, 0, none⟩ = some (.slice a n c) ∧ w'.cell? ⟨w.heap.size + 1, 1, none⟩ = some (.slice none 0 0) ∧ Below w.heap.size w w' := by
  go_enter Trym.func12, Trym.ntmps12
  go_wp2
  exact bodyPost_ret (v := .agg #[.pointer (some ⟨w.heap.size + 1, 0, none⟩), .slice a' n' c', .slice none 0 0]) (by simp [results, Trym.results12, go_sem]) rfl ⟨rfl, by simp, by simp, ((Below.refl _ _).alloc (Nat.le_refl _) _).alloc (by simp) _⟩

end Go.Proofs.Qxb6001730aMods
