import Derived.Test.Qxb6001730aModsH5
namespace Go.Proofs.Qxb6001730aMods
open Go.RowKit
attribute [local go_sem ↓] Go.wp_at_zero Go.wp_at_succ

set_option maxHeartbeats 1600000 in
theorem build_F (a0 a1 a2 a3 : Option Addr) (sB vB wB qB nv np : Nat) (st vt vw sq : Nat → Int) (w : World) (hnv : nv ≤ 65536) (hnp : np ≤ 4096) (hz : nv = 0 → np = 0)
    (ha0 : 0 < nv → a0 = some ⟨sB, 0, none⟩) (hst : ∀ i, i < nv → w.cell? ⟨sB, i, none⟩ = some (.int .u64 (st i)))
    (ha1 : 0 < np → a1 = some ⟨vB, 0, none⟩) (hvt : ∀ i, i < np → w.cell? ⟨vB, i, none⟩ = some (.int .u16 (vt i))) (hvr : ∀ i, i < np → 0 ≤ vt i ∧ vt i ≤ 65535)
    (ha2 : 0 < np → a2 = some ⟨wB, 0, none⟩) (hvw : ∀ i, i < np → w.cell? ⟨wB, i, none⟩ = some (.int .u64 (vw i)))
    (ha3 : 0 < np → a3 = some ⟨qB, 0, none⟩) (hsq : ∀ i, i < np → w.cell? ⟨qB, i, none⟩ = some (.int .u64 (sq i))) :
    Calls Trym.prog 25 #[.slice a0 nv nv, .slice a1 np np, .slice a2 np np, .slice a3 np np, .bool false] w fun e w' => e = .returned (.slice (some ⟨w.heap.size, 0, none⟩) nv nv) ∧ ∃ pr pl, Fill w w' nv np id st vw sq pr pl := by
  have hmk := run_make_row' (P := Trym.prog) 46 57 (.pointer none) 8 Trym.underlying46 Trym.info57 rfl .i64 .i64 nv (by omega) (by omega)
  have H0 : Hid (0 < nv → a0 = some ⟨sB, 0, none⟩) := ha0
  have H1 : Hid (0 < np → a1 = some ⟨vB, 0, none⟩) := ha1
  have H2 : Hid (0 < np → a2 = some ⟨wB, 0, none⟩) := ha2
  have H3 : Hid (0 < np → a3 = some ⟨qB, 0, none⟩) := ha3
  have HST : Hid (∀ i, i < nv → w.cell? ⟨sB, i, none⟩ = some (.int .u64 (st i))) := hst
  have HVT : Hid (∀ i, i < np → w.cell? ⟨vB, i, none⟩ = some (.int .u16 (vt i))) := hvt
  have HVR : Hid (∀ i, i < np → 0 ≤ vt i ∧ vt i ≤ 65535) := hvr
  have HVW : Hid (∀ i, i < np → w.cell? ⟨wB, i, none⟩ = some (.int .u64 (vw i))) := hvw
  have HSQ : Hid (∀ i, i < np → w.cell? ⟨qB, i, none⟩ = some (.int .u64 (sq i))) := hsq
  have HZ : Hid (nv = 0 → np = 0) := hz
  clear ha0 ha1 ha2 ha3 hst hvt hvr hvw hsq hz
  go_enter Trym.func25, Trym.ntmps25
  go_wp2
  clear hmk
  go_loopw [13] (fun i wr => ∃ k : Nat, k ≤ nv ∧ i = .int .i64 k ∧ Made w wr nv k id st) (fun i _ => nv - (intOf i).toNat)
  case atStart => exact ⟨0, Nat.zero_le _, rfl, made_start w nv id st⟩
  case round =>
    obtain ⟨k, hk, rfl, HM⟩ := hrel
    by_cases hlt : k < nv
    · obtain rfl := H0.out (by omega)
      have c1 : wr.cell? ⟨sB, k, none⟩ = some (.int .u64 (st k)) := cell_on HM.old (HST.out k hlt)
      have c2 : wr.cell? ⟨w.heap.size, k, none⟩ = some (.pointer none) := by rw [HM.row.cell hlt]; simp
      have c3 : wr.frozen? ⟨w.heap.size, k, none⟩ = false := HM.row.frozen k
      have i1 : (k : Int) < (nv : Int) := by omega
      have hwl : w.heap.size < wr.heap.size := by have := HM.size; omega
      have c4 : ∀ o1 o2 o3, (((wr.alloc o1).alloc o2).alloc o3).cell? ⟨w.heap.size, k, none⟩ = some (.pointer none) := fun o1 o2 o3 => cell3 c2 o1 o2 o3
      have c5 : ∀ o1 o2 o3, (((wr.alloc o1).alloc o2).alloc o3).frozen? ⟨w.heap.size, k, none⟩ = false := fun o1 o2 o3 => frozen3 hwl c3 o1 o2 o3
      clear c2 c3
      go_wp2
      go_roundw
      case rel => exact ⟨k + 1, by omega, by go_num, made_step HM hlt (fun _ _ => rfl) _ rfl⟩
      case measure => simp [intOf]; omega
    · obtain rfl : k = nv := by omega
      have HF0 := fill_start vw sq HM (fun p hp => hp)
      clear HM hlt HST H0
      by_cases hk0 : k = 0
      · have d0 : ((k : Int) == 0) = true := by simp; omega
        have hnp0 := HZ.out hk0
        clear hk0 HZ
        subst hnp0
        go_wp2
        go_ret
        exact ⟨rfl, _, _, HF0⟩
      have d0 : ((k : Int) == 0) = false := by simp; omega
      have hkp : 0 < k := by omega
      clear hk0
      obtain ⟨wo, rfl⟩ : ∃ wo : World, wo = wr := ⟨_, rfl⟩
      go_wp2
      go_loopw [15] (fun i wr => ∃ j : Nat, j ≤ np ∧ i = .int .i64 j ∧ ∃ pr pl, Fill w wr k j id st vw sq pr pl) (fun i _ => np - (intOf i).toNat)
      case atStart => exact ⟨0, Nat.zero_le _, rfl, _, _, HF0⟩
      case round =>
        obtain ⟨j, hj, rfl, pr, pl, HF⟩ := hrel
        by_cases hlt : j < np
        · obtain rfl := H1.out (by omega)
          obtain rfl := H2.out (by omega)
          obtain rfl := H3.out (by omega)
          have v1 := cell_on HF.old (HVT.out j hlt)
          have v2 := cell_on HF.old (HVW.out j hlt)
          have v3 := cell_on HF.old (HSQ.out j hlt)
          have r1 := (HVR.out j hlt).1
          have r2 := (HVR.out j hlt).2
          have i1 : (j : Int) < (np : Int) := by omega
          have i2 : (0 : Int) < (k : Int) := by omega
          obtain ⟨x, hx, hxk⟩ : ∃ x : Nat, vt j % (k : Int) = (x : Int) ∧ x < k := ⟨(vt j % (k : Int)).toNat, by rw [Int.toNat_of_nonneg (Int.emod_nonneg _ (by omega))], by
            have := Int.emod_lt_of_pos (vt j) i2; have := Int.emod_nonneg (vt j) (show (k : Int) ≠ 0 by omega); omega⟩
          go_wp2
          go_region_held3 (fun W => W.cell? ⟨wB, j, none⟩ = some (.int .u64 (vw j)) ∧ W.cell? ⟨qB, j, none⟩ = some (.int .u64 (sq j))) (go_keep) (fail)
          clear v1 v2 v3
          have hwl : w.heap.size < wr.heap.size := by have := HF.size; omega
          have hvl : w.heap.size + 3 + 3 * x < wr.heap.size := by have := HF.size; omega
          have c1 : wr.cell? ⟨w.heap.size, x, none⟩ = some (.pointer (some ⟨w.heap.size + 3 + 3 * x, 0, none⟩)) := HF.row x hxk
          have c2 : wr.cell? ⟨w.heap.size + 3 + 3 * x, 5, none⟩ = some (pr x) := HF.five x hxk
          have i3 : (x : Int) < (k : Int) := by omega
          have c3 : ∀ o1, (wr.alloc o1).cell? ⟨w.heap.size, x, none⟩ = some (.pointer (some ⟨w.heap.size + 3 + 3 * x, 0, none⟩)) := fun o1 => cell_on ((Below.refl _ _).alloc (Nat.le_refl _) o1) c1
          have c4 : ∀ o1 o2, ((wr.alloc o1).alloc o2).cell? ⟨w.heap.size, x, none⟩ = some (.pointer (some ⟨w.heap.size + 3 + 3 * x, 0, none⟩)) := fun o1 o2 => two_allocs c1 o1 o2
          have c5 : ∀ o1, (wr.alloc o1).cell? ⟨w.heap.size + 3 + 3 * x, 5, none⟩ = some (pr x) := fun o1 => cell_on ((Below.refl _ _).alloc (Nat.le_refl _) o1) c2
          have c6 : ∀ o1 o2, ((wr.alloc o1).alloc o2).cell? ⟨w.heap.size + 3 + 3 * x, 5, none⟩ = some (pr x) := fun o1 o2 => two_allocs c2 o1 o2
          clear c1 c2
          have HF' : Hid (Fill w wr k j id st vw sq pr pl) := HF
          have hl := HF.len x hxk
          have hsz := HF.size
          clear HF
          go_wp2
          go_region_law ((refine step75 _ (by rfl) (by rfl) (w.heap.size + 1 + 3 * k) (pr x) (pl x).length (prow (pl x)) (by rfl) (fill_own HF'.out hxk (by rfl)) wr.heap.size (wr.heap.size + 1) 1 (by rfl) (two_new wr _ _ (by rfl)) (by omega) (by simp; omega) (wr.heap.size + 1 + 1) (by simp) ?_; intro g cap w1 hown hgrow hat hlt2; obtain ⟨k1, k2, k3⟩ := fill_kept (p := x) HF'.out hxk hxk (by rfl) hgrow))
          all_goals
            have HN := fill_step HF'.out x hxk (by rfl) (by rfl) (by rfl) (by rfl) hown hgrow hat
            clear HF' c3 c4 c5 c6 k1 k2 k3 hown hgrow hat hlt2 hl hsz hvl hwl
            go_wp2
            go_roundw
            case rel => exact ⟨j + 1, by omega, by go_num, _, _, HN⟩
            case measure => simp [intOf]; omega
        · obtain rfl : j = np := by omega
          go_wp2
          go_ret
          exact ⟨rfl, _, _, HF⟩

end Go.Proofs.Qxb6001730aMods
