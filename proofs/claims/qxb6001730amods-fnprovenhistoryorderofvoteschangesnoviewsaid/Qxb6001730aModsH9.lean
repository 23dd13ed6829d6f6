import Derived.Test.Qxb6001730aModsH8
namespace Go.Proofs.Qxb6001730aMods
open Go.RowKit
attribute [local go_sem ↓] Go.wp_at_zero Go.wp_at_succ

set_option maxHeartbeats 800000 in
theorem zz_any (vs nv : Nat) (vb cs cp : Nat → Nat) (st mk : Nat → Int) (pl : Nat → List Nat) (pv ps : Nat → Int) (w : World) (hnv : nv ≤ 65536) (hV : Votes w vs nv vb cs cp st mk pl pv ps) :
    Calls Trym.prog 26 #[.slice (some ⟨vs, 0, none⟩) nv nv] w fun e w' => ∃ af tp a n c m, e = .returned (.tuple #[.int .u64 af, .int .u64 tp, .slice a n c, .map (some (w.heap.size + 1))]) ∧ MapIs w' (w.heap.size + 1) m ∧
      AfterIs st cs nv af (.slice a n c) ∧ ProvedIs ps pv af tp m ((List.range nv).flatMap pl) ∧ Below w.heap.size w w' := by
  have HV : Hid (Votes w vs nv vb cs cp st mk pl pv ps) := hV
  clear hV
  go_enter Trym.func26, Trym.ntmps26
  go_wp2_with fail
  refine (proven_any vs nv vb cs cp st mk pl pv ps w hnv HV.out).mono ?_
  rintro e w1 ⟨af, tp, pf, m, rfl, hM, hA, hP, hb⟩
  have hpf : ∃ a n c, pf = .slice a n c := by
    rcases hA.2 with ⟨_, e⟩ | ⟨_, p0, _, _, e⟩
    · exact ⟨_, _, _, e⟩
    · exact ⟨_, _, _, e⟩
  obtain ⟨a, n, c, rfl⟩ := hpf
  have HM : Hid (MapIs w1 (w.heap.size + 1) m) := hM
  have HA : Hid (AfterIs st cs nv af (.slice a n c)) := hA
  have HP : Hid (ProvedIs ps pv af tp m ((List.range nv).flatMap pl)) := hP
  clear hM hA hP
  go_wp2
  go_quiet (fail)
  go_wp2
  refine bodyPost_ret (v := .tuple #[.int .u64 af, .int .u64 tp, .slice a n c, .map (some (w.heap.size + 1))]) (by simp [results, Trym.results26, go_sem]) rfl ⟨af, tp, a, n, c, m, rfl, ?_, HA.out, HP.out, ?_⟩
  · exact (HM.out.of_block (Go.Deep.blk_alloc_lt _ _ _ HM.out.lt))
  · exact below_drewN (hb.alloc hb.size _) _

end Go.Proofs.Qxb6001730aMods
