import Derived.Test.Qxb6001730aModsH7
namespace Go.Proofs.Qxb6001730aMods
open Go.RowKit
attribute [local go_sem ↓] Go.wp_at_zero Go.wp_at_succ

/-- After k votes: after is the greatest Stable so far, proof that vote's checkpoints. -/
def AfterIs (st : Nat → Int) (cs : Nat → Nat) (k : Nat) (af : Int) (pf : Value) : Prop :=
  Pl.Top st k 0 af ∧ ((af = 0 ∧ pf = .slice none 0 0) ∨ (0 < af ∧ ∃ p, p < k ∧ st p = af ∧ pf = .slice (some ⟨cs p, 0, none⟩) 1 1))

theorem after_start (st : Nat → Int) (cs : Nat → Nat) : AfterIs st cs 0 0 (.slice none 0 0) :=
  ⟨⟨Int.le_refl _, fun _ hi => absurd hi (Nat.not_lt_zero _), Or.inl rfl⟩, Or.inl ⟨rfl, rfl⟩⟩

theorem after_more {st : Nat → Int} {cs : Nat → Nat} {k : Nat} {af : Int} {pf : Value} (h : AfterIs st cs k af pf) (hlt : af < st k) : AfterIs st cs (k + 1) (st k) (.slice (some ⟨cs k, 0, none⟩) 1 1) := by
  obtain ⟨⟨h1, h2, h3⟩, _⟩ := h
  refine ⟨⟨by omega, fun i hi => ?_, Or.inr ⟨k, by omega, rfl⟩⟩, Or.inr ⟨by omega, k, by omega, rfl, rfl⟩⟩
  by_cases e : i = k
  · subst e; exact Int.le_refl _
  · have := h2 i (by omega); omega

theorem after_less {st : Nat → Int} {cs : Nat → Nat} {k : Nat} {af : Int} {pf : Value} (h : AfterIs st cs k af pf) (hge : st k ≤ af) : AfterIs st cs (k + 1) af pf := by
  obtain ⟨⟨h1, h2, h3⟩, h4⟩ := h
  refine ⟨⟨h1, fun i hi => ?_, ?_⟩, ?_⟩
  · by_cases e : i = k
    · subst e; omega
    · exact h2 i (by omega)
  · rcases h3 with h3 | ⟨i, hi, e⟩
    · exact Or.inl h3
    · exact Or.inr ⟨i, by omega, e⟩
  · rcases h4 with h4 | ⟨h0, p, hp, e⟩
    · exact Or.inl h4
    · exact Or.inr ⟨h0, p, by omega, e⟩

/-- What the proposals L prove. -/
def ProvedIs (ps pv : Nat → Int) (af tp : Int) (m : List (Int × Nat)) (L : List Nat) : Prop :=
  Pl.Seen ps pv m L ∧ af ≤ tp ∧ (∀ q, q ∈ L → ps q ≤ tp) ∧ (tp = af ∨ ∃ q, q ∈ L ∧ ps q = tp)

theorem top_step {ps : Nat → Int} {af tp : Int} {L : List Nat} (h : af ≤ tp ∧ (∀ q, q ∈ L → ps q ≤ tp) ∧ (tp = af ∨ ∃ q, q ∈ L ∧ ps q = tp)) (q : Nat) {mx : Int} (hmx : (if tp < ps q then ps q else tp) = mx) :
    af ≤ mx ∧ (∀ q', q' ∈ L ++ [q] → ps q' ≤ mx) ∧ (mx = af ∨ ∃ q', q' ∈ L ++ [q] ∧ ps q' = mx) := by
  obtain ⟨h1, h2, h3⟩ := h
  by_cases hc : tp < ps q
  · rw [if_pos hc] at hmx
    subst hmx
    refine ⟨by omega, fun q' hq' => ?_, Or.inr ⟨q, List.mem_append.2 (Or.inr (by simp)), rfl⟩⟩
    rcases List.mem_append.1 hq' with h' | h'
    · have := h2 q' h'; omega
    · simp at h'; subst h'; exact Int.le_refl _
  · rw [if_neg hc] at hmx
    subst hmx
    refine ⟨h1, fun q' hq' => ?_, ?_⟩
    · rcases List.mem_append.1 hq' with h' | h'
      · exact h2 q' h'
      · simp at h'; subst h'; omega
    · rcases h3 with h3 | ⟨q', hq', e⟩
      · exact Or.inl h3
      · exact Or.inr ⟨q', List.mem_append.2 (Or.inl hq'), e⟩

theorem proved_new {ps pv : Nat → Int} {af tp : Int} {m : List (Int × Nat)} {L : List Nat} (h : ProvedIs ps pv af tp m L) (q : Nat) (hq : Pl.lk m (ps q) = none) {mx : Int} (hmx : (if tp < ps q then ps q else tp) = mx) :
    ProvedIs ps pv af mx (Pl.put m (ps q) q) (L ++ [q]) := ⟨h.1.new q hq, top_step h.2 q hmx⟩
theorem proved_better {ps pv : Nat → Int} {af tp : Int} {m : List (Int × Nat)} {L : List Nat} (h : ProvedIs ps pv af tp m L) (q q0 : Nat) (hq : Pl.lk m (ps q) = some q0) (hv : pv q0 < pv q) {mx : Int} (hmx : (if tp < ps q then ps q else tp) = mx) :
    ProvedIs ps pv af mx (Pl.put m (ps q) q) (L ++ [q]) := ⟨h.1.better q q0 hq hv, top_step h.2 q hmx⟩
theorem proved_keep {ps pv : Nat → Int} {af tp : Int} {m : List (Int × Nat)} {L : List Nat} (h : ProvedIs ps pv af tp m L) (q q0 : Nat) (hq : Pl.lk m (ps q) = some q0) (hv : pv q ≤ pv q0) {mx : Int} (hmx : (if tp < ps q then ps q else tp) = mx) :
    ProvedIs ps pv af mx m (L ++ [q]) := ⟨h.1.keep q q0 hq hv, top_step h.2 q hmx⟩

theorem proved_start (ps pv : Nat → Int) (af : Int) (pl : Nat → List Nat) : ProvedIs ps pv af af [] ((List.range 0).flatMap pl) :=
  ⟨Pl.Seen.nil ps pv, Int.le_refl _, (fun q hq => by simp at hq), Or.inl rfl⟩

theorem gath_start (w : World) : Gath w (((w.alloc (.cells #[.int .u64 0, .int .u64 0, .slice none 0 0, .map none] 77)).alloc (.map #[] 0)).alloc
    (.cells #[.int .u64 0, .int .u64 0, .slice none 0 0, .map (some (w.heap.size + 1))] 77)) 0 0 (.slice none 0 0) [] where
  size := by simp
  h := ⟨_, new3 _ _ _ _, rfl, fun j hj => by
    match j, hj with
    | 0, _ => rfl
    | 1, _ => rfl
    | 2, _ => rfl
    | 3, _ => rfl⟩
  r := ⟨fun j => if j = 0 then .int .u64 0 else if j = 1 then .int .u64 0 else if j = 2 then .slice none 0 0 else .map none, _, new1 _ _ _ _, rfl, fun j hj => by
    match j, hj with
    | 0, _ => rfl
    | 1, _ => rfl
    | 2, _ => rfl
    | 3, _ => rfl⟩
  mp := ⟨#[], 0, new2 _ _ _ _, rfl⟩
  old := below3 w _ _ _

set_option maxHeartbeats 1600000 in
theorem proven_any (vs nv : Nat) (vb cs cp : Nat → Nat) (st mk : Nat → Int) (pl : Nat → List Nat) (pv ps : Nat → Int) (w : World) (hnv : nv ≤ 65536) (hV : Votes w vs nv vb cs cp st mk pl pv ps) :
    Calls Trym.prog 34 #[.slice (some ⟨vs, 0, none⟩) nv nv] w fun e w' => ∃ af tp pf m, e = .returned (.agg #[.int .u64 af, .int .u64 tp, pf, .map (some (w.heap.size + 1))]) ∧ MapIs w' (w.heap.size + 1) m ∧
      AfterIs st cs nv af pf ∧ ProvedIs ps pv af tp m ((List.range nv).flatMap pl) ∧ Below w.heap.size w w' := by
  have hmm := @run_makeMap Trym.prog
  have HV : Hid (Votes w vs nv vb cs cp st mk pl pv ps) := hV
  clear hV
  go_enter Trym.func34, Trym.ntmps34
  go_wp2
  clear hmm
  go_loopw [16] (fun i wr => ∃ k : Nat, k ≤ nv ∧ i = .int .i64 k ∧ ∃ af pf, AfterIs st cs k af pf ∧ Gath w wr af 0 pf []) (fun i _ => nv - (intOf i).toNat)
  case atStart => exact ⟨0, Nat.zero_le _, rfl, 0, _, after_start st cs, gath_start w⟩
  case round =>
    obtain ⟨k, hk, rfl, af, pf, hA, hG⟩ := hrel
    have HG : Hid (Gath w wr af 0 pf []) := hG
    have HA : Hid (AfterIs st cs k af pf) := hA
    clear hA hG
    by_cases hlt : k < nv
    · have v1 := cell_on HG.out.old (HV.out.row k hlt)
      have v2 := cell_on HG.out.old (HV.out.stb k hlt)
      have v3 := cell_on HG.out.old (HV.out.chk k hlt)
      obtain ⟨g0, g1, g2, g3⟩ := HG.out.cells
      have f0 := HG.out.h.frozen 0
      have f2 := HG.out.h.frozen 2
      have i1 : (k : Int) < (nv : Int) := by omega
      by_cases hc : af < st k
      · go_wp2
        go_quiet (fail)
        go_wp2
        go_region
        go_wp2
        go_roundw
        case rel => exact ⟨k + 1, by omega, by go_num, st k, _, after_more HA.out hc, ((HG.out.drewN _).set0 _).set2 _⟩
        case measure => simp [intOf]; omega
      · go_wp2
        go_quiet (fail)
        go_wp2
        go_roundw
        case rel => exact ⟨k + 1, by omega, by go_num, af, pf, after_less HA.out hc, HG.out.drewN _⟩
        case measure => simp [intOf]; omega
    · obtain rfl : k = nv := by omega
      obtain ⟨g0, g1, g2, g3⟩ := HG.out.cells
      have f1 := HG.out.h.frozen 1
      have HG1 := HG.out.set1 af
      go_wp2
      clear g0 g1 g2 g3 f1 HG
      go_loopw [43] (fun i wr => ∃ p : Nat, p ≤ k ∧ i = .int .i64 p ∧ ∃ tp m, Gath w wr af tp pf m ∧ ProvedIs ps pv af tp m ((List.range p).flatMap pl)) (fun i _ => k - (intOf i).toNat)
      case atStart => exact ⟨0, Nat.zero_le _, rfl, af, [], HG1, proved_start ps pv af pl⟩
      case round =>
        obtain ⟨p, hp, rfl, tp, m, hG, hQ⟩ := hrel
        by_cases hlt : p < k
        · obtain ⟨wo, rfl⟩ : ∃ wo : World, wo = wr := ⟨_, rfl⟩
          have v1 := cell_on hG.old (HV.out.row p hlt)
          obtain ⟨a, c, g, h5, h6, h7⟩ := HV.out.prp p hlt
          have v5 := cell_on hG.old h5
          have hlen := HV.out.len p hlt
          have H6 : Hid (0 < (pl p).length → a = some ⟨g, 0, none⟩) := h6
          have H7 : Hid (∀ j (h : j < (pl p).length), w.cell? ⟨g, 2 * j, none⟩ = some (.pointer (some ⟨(pl p)[j], 0, none⟩)) ∧ w.cell? ⟨g, 2 * j + 1, none⟩ = some (.slice none 0 0)) := h7
          have i1 : (p : Int) < (k : Int) := by omega
          have HG : Hid (Gath w wo af tp pf m) := hG
          have HQ : Hid (ProvedIs ps pv af tp m ((List.range p).flatMap pl)) := hQ
          obtain ⟨n, hn⟩ : ∃ n, Hid ((pl p).length = n) := ⟨_, rfl⟩
          rw [hn.out] at v5 hlen H6
          clear h5 h6 h7 hG hQ HG1
          go_wp2
          clear v1 v5
          go_loopw [52] (fun i wr => ∃ j : Nat, j ≤ n ∧ i = .int .i64 j ∧ ∃ tp m, Gath w wr af tp pf m ∧ ProvedIs ps pv af tp m ((List.range p).flatMap pl ++ (pl p).take j)) (fun i _ => n - (intOf i).toNat)
          case atStart => exact ⟨0, Nat.zero_le _, rfl, tp, m, HG.out, by rw [List.take_zero, List.append_nil]; exact HQ.out⟩
          case round =>
            clear HG HQ tp m
            obtain ⟨j, hj, rfl, tp, m, hG, hQ⟩ := hrel
            by_cases hlt2 : j < n
            · obtain rfl := H6.out (by omega)
              have hjl : j < (pl p).length := by rw [hn.out]; exact hlt2
              have HG : Hid (Gath w wr af tp pf m) := hG
              have HQ : Hid (ProvedIs ps pv af tp m ((List.range p).flatMap pl ++ (pl p).take j)) := hQ
              clear hG hQ
              obtain ⟨q, hq⟩ : ∃ q, Hid ((pl p)[j] = q) := ⟨(pl p)[j], rfl⟩
              have hqm : q ∈ pl p := by rw [← hq.out]; exact List.getElem_mem hjl
              have c1 : wr.cell? ⟨g, j * 2, none⟩ = some (.pointer (some ⟨q, 0, none⟩)) := by rw [← hq.out, Nat.mul_comm]; exact cell_on HG.out.old (H7.out j hjl).1
              have c2 : wr.cell? ⟨g, j * 2 + 1, none⟩ = some (.slice none 0 0) := by rw [Nat.mul_comm]; exact cell_on HG.out.old (H7.out j hjl).2
              have q1 := cell_on HG.out.old (HV.out.pps p hlt q hqm).1
              have q2 := cell_on HG.out.old (HV.out.pps p hlt q hqm).2
              obtain ⟨g0, g1, g2, g3⟩ := HG.out.cells
              have f1 := HG.out.h.frozen 1
              have j1 : (j : Int) < (n : Int) := by omega
              go_wp2
              have HGa : Hid (Gath w (wr.alloc (.cells #[.pointer (some ⟨q, 0, none⟩), .slice none 0 0] 75)) af tp pf m) := HG.out.alloc _
              have a1 : (wr.alloc (.cells #[.pointer (some ⟨q, 0, none⟩), .slice none 0 0] 75)).cell? ⟨q, 0, none⟩ = some (.int .u64 (pv q)) := cell_on ((Below.refl _ _).alloc (Nat.le_refl _) _) q1
              have a2 : (wr.alloc (.cells #[.pointer (some ⟨q, 0, none⟩), .slice none 0 0] 75)).cell? ⟨q, 1, none⟩ = some (.int .u64 (ps q)) := cell_on ((Below.refl _ _).alloc (Nat.le_refl _) _) q2
              generalize wr.alloc (.cells #[.pointer (some ⟨q, 0, none⟩), .slice none 0 0] 75) = wa at HGa a1 a2 ⊢
              generalize wr.heap.size = wrs
              clear c1 c2 q1 q2 g0 g1 g2 g3 f1 HG wr
              obtain ⟨g0, g1, g2, g3⟩ := HGa.out.cells
              have f1 := HGa.out.h.frozen 1
              have HL : Hid ((List.range p).flatMap pl ++ (pl p).take (j + 1) = ((List.range p).flatMap pl ++ (pl p).take j) ++ [q]) := by
                show _ = _
                rw [List.take_succ_eq_append_getElem hjl, hq.out, List.append_assoc]
              have hqb : q < w.heap.size := World.block_lt_of_cell? _ _ (HV.out.pps p hlt q hqm).1
              have hqh : q ≠ w.heap.size + 1 + 1 := by omega
              have hqm' : q ≠ w.heap.size + 1 := by omega
              clear hn hjl hq
              cases hlk : Pl.lk m (ps q) with
              | none =>
                have HK : Hid (Pl.lk m (ps q) = none) := hlk
                have hget : ∀ n, (Instr.lookup 49 (.map (some (w.heap.size + 1))) (.int .u64 (ps q)) false).run Trym.prog (wa.drewN n) = .ok (.pointer none) (wa.drewN n) := fun n => by
                  have := map_get (HGa.out.drewN n).mp (ps q); rw [hlk] at this; exact this
                have hput : ∃ f : Nat → World, ∀ n, (Instr.mapUpdate 49 (.map (some (w.heap.size + 1))) (.int .u64 (ps q)) (.pointer (some ⟨q, 0, none⟩))).run Trym.prog (wa.drewN n) = .ok () (f n) ∧ MapIs (f n) (w.heap.size + 1) (Pl.put m (ps q) q) ∧ MapTurned (wa.drewN n) (f n) (w.heap.size + 1) :=
                  ⟨fun n => Classical.choose (map_put (HGa.out.drewN n).mp HQ.out.1.nodup (ps q) q), fun n => Classical.choose_spec (map_put (HGa.out.drewN n).mp HQ.out.1.nodup (ps q) q)⟩
                obtain ⟨f, hf⟩ := hput
                have hupd := fun n => (hf n).1
                have HF : Hid (∀ n, Gath w (f n) af tp pf (Pl.put m (ps q) q)) := fun n => (HGa.out.drewN n).put (hf n).2.1 (hf n).2.2
                have k1 : ∀ n, (f n).cell? ⟨w.heap.size + 1 + 1, 1, none⟩ = some (.int .u64 tp) := fun n => (HF.out n).cells.2.1
                have k2 : ∀ n, (f n).cell? ⟨q, 1, none⟩ = some (.int .u64 (ps q)) := fun n => by rw [World.cell?_of_block (w := wa.drewN n) ((hf n).2.2.block _ hqm')]; exact a2
                have k3 : ∀ n, (f n).frozen? ⟨w.heap.size + 1 + 1, 1, none⟩ = false := fun n => (HF.out n).h.frozen 1
                clear hf hlk
                go_quiet (fail)
                go_wp2
                go_quiet (fail)
                go_wp2
                go_region
                go_wp2
                go_region
                generalize hmx : (if tp < ps q then ps q else tp) = mx
                have HMX : Hid ((if tp < ps q then ps q else tp) = mx) := hmx
                clear hmx a1 a2 g0 g1 g2 g3 f1 k1 k2 k3 hupd hget
                go_wp2
                go_roundw
                case rel => exact ⟨j + 1, by omega, by go_num, mx, _, ((HF.out _).set1 _).drew, by rw [HL.out]; exact proved_new HQ.out q HK.out HMX.out⟩
                case measure => simp [intOf]; omega
              | some q0 =>
                have HK : Hid (Pl.lk m (ps q) = some q0) := hlk
                have hget : ∀ n, (Instr.lookup 49 (.map (some (w.heap.size + 1))) (.int .u64 (ps q)) false).run Trym.prog (wa.drewN n) = .ok (.pointer (some ⟨q0, 0, none⟩)) (wa.drewN n) := fun n => by
                  have := map_get (HGa.out.drewN n).mp (ps q); rw [hlk] at this; exact this
                have hq0 : ∃ p0, p0 < k ∧ q0 ∈ pl p0 := by
                  have := (HQ.out.1.best _ _ (Pl.lk_some hlk)).1
                  rcases List.mem_append.1 this with h' | h'
                  · obtain ⟨p0, hp0, hh⟩ := List.mem_flatMap.1 h'
                    exact ⟨p0, by have := List.mem_range.1 hp0; omega, hh⟩
                  · exact ⟨p, hlt, List.mem_of_mem_take h'⟩
                have a3 : wa.cell? ⟨q0, 0, none⟩ = some (.int .u64 (pv q0)) := by
                  obtain ⟨p0, hp0, hh⟩ := hq0
                  exact cell_on HGa.out.old (HV.out.pps p0 hp0 q0 hh).1
                clear hlk hq0
                by_cases hv : pv q0 < pv q
                · have HVW : Hid (pv q0 < pv q) := hv
                  have hput : ∃ f : Nat → World, ∀ n, (Instr.mapUpdate 49 (.map (some (w.heap.size + 1))) (.int .u64 (ps q)) (.pointer (some ⟨q, 0, none⟩))).run Trym.prog (wa.drewN n) = .ok () (f n) ∧ MapIs (f n) (w.heap.size + 1) (Pl.put m (ps q) q) ∧ MapTurned (wa.drewN n) (f n) (w.heap.size + 1) :=
                    ⟨fun n => Classical.choose (map_put (HGa.out.drewN n).mp HQ.out.1.nodup (ps q) q), fun n => Classical.choose_spec (map_put (HGa.out.drewN n).mp HQ.out.1.nodup (ps q) q)⟩
                  obtain ⟨f, hf⟩ := hput
                  have hupd := fun n => (hf n).1
                  have HF : Hid (∀ n, Gath w (f n) af tp pf (Pl.put m (ps q) q)) := fun n => (HGa.out.drewN n).put (hf n).2.1 (hf n).2.2
                  have k1 : ∀ n, (f n).cell? ⟨w.heap.size + 1 + 1, 1, none⟩ = some (.int .u64 tp) := fun n => (HF.out n).cells.2.1
                  have k2 : ∀ n, (f n).cell? ⟨q, 1, none⟩ = some (.int .u64 (ps q)) := fun n => by rw [World.cell?_of_block (w := wa.drewN n) ((hf n).2.2.block _ hqm')]; exact a2
                  have k3 : ∀ n, (f n).frozen? ⟨w.heap.size + 1 + 1, 1, none⟩ = false := fun n => (HF.out n).h.frozen 1
                  clear hf
                  go_quiet (fail)
                  go_wp2
                  go_quiet (fail)
                  go_wp2
                  go_region
                  go_wp2
                  go_region
                  generalize hmx : (if tp < ps q then ps q else tp) = mx
                  have HMX : Hid ((if tp < ps q then ps q else tp) = mx) := hmx
                  clear hmx a1 a2 a3 g0 g1 g2 g3 f1 k1 k2 k3 hupd hget hv
                  go_wp2
                  go_roundw
                  case rel => exact ⟨j + 1, by omega, by go_num, mx, _, ((HF.out _).set1 _).drew, by rw [HL.out]; exact proved_better HQ.out q q0 HK.out HVW.out HMX.out⟩
                  case measure => simp [intOf]; omega
                · have hd : decide (pv q0 < pv q) = false := by simpa using hv
                  have HVW : Hid (pv q ≤ pv q0) := by show pv q ≤ pv q0; omega
                  clear hv
                  go_quiet (fail)
                  go_wp2
                  go_quiet (fail)
                  go_wp2
                  go_region
                  generalize hmx : (if tp < ps q then ps q else tp) = mx
                  have HMX : Hid ((if tp < ps q then ps q else tp) = mx) := hmx
                  clear hmx a1 a2 a3 g0 g1 g2 g3 f1 hget hd
                  go_wp2
                  go_roundw
                  case rel => exact ⟨j + 1, by omega, by go_num, mx, _, (HGa.out.drewN _).set1 _, by rw [HL.out]; exact proved_keep HQ.out q q0 HK.out HVW.out HMX.out⟩
                  case measure => simp [intOf]; omega
            · obtain rfl : j = n := by omega
              have HQ2 : Hid (ProvedIs ps pv af tp m ((List.range (p + 1)).flatMap pl)) := by
                show ProvedIs ps pv af tp m ((List.range (p + 1)).flatMap pl)
                rw [List.take_of_length_le (by rw [hn.out]; exact Nat.le_refl _)] at hQ
                rw [List.range_succ, List.flatMap_append]
                simpa using hQ
              have HG : Hid (Gath w wr af tp pf m) := hG
              clear hQ hG
              go_wp2
              go_roundw
              case rel => exact ⟨p + 1, by omega, by go_num, tp, m, HG.out, HQ2.out⟩
              case measure => simp [intOf]; omega
        · obtain rfl : p = k := by omega
          have HG : Hid (Gath w wr af tp pf m) := hG
          obtain ⟨g0, g1, g2, g3⟩ := hG.cells
          obtain ⟨fr, hr⟩ := hG.r
          have r0 := hr.cell (i := 0) (by omega)
          have r1 := hr.cell (i := 1) (by omega)
          have r2 := hr.cell (i := 2) (by omega)
          have r3 := hr.cell (i := 3) (by omega)
          have f0 := hr.frozen 0
          have f1 := hr.frozen 1
          have f2 := hr.frozen 2
          have f3 := hr.frozen 3
          have hs := hG.size
          have hpf : ∃ a n c, pf = .slice a n c := by
            rcases HA.out.2 with ⟨_, e⟩ | ⟨_, p0, _, _, e⟩
            · exact ⟨_, _, _, e⟩
            · exact ⟨_, _, _, e⟩
          obtain ⟨a, n, c, rfl⟩ := hpf
          have HQ : Hid (ProvedIs ps pv af tp m ((List.range p).flatMap pl)) := hQ
          clear hG hr hQ HG1
          go_wp2
          refine bodyPost_ret (v := .agg #[.int .u64 af, .int .u64 tp, .slice a n c, .map (some (w.heap.size + 1))]) (by simp [results, Trym.results34, go_sem, r0, r1, r2, r3]) rfl ⟨af, tp, _, m, rfl, ?_, HA.out, HQ.out, ?_⟩
          · refine HG.out.mp.of_block ?_
            rw [Below.heap_setCell _ _ _ _ (by show w.heap.size + 1 ≠ w.heap.size; omega), Below.heap_setCell _ _ _ _ (by show w.heap.size + 1 ≠ w.heap.size; omega), Below.heap_setCell _ _ _ _ (by show w.heap.size + 1 ≠ w.heap.size; omega), Below.heap_setCell _ _ _ _ (by show w.heap.size + 1 ≠ w.heap.size; omega)]
          · exact (((HG.out.old.setCell (Nat.le_refl _) _).setCell (Nat.le_refl _) _).setCell (Nat.le_refl _) _).setCell (Nat.le_refl _) _

end Go.Proofs.Qxb6001730aMods
