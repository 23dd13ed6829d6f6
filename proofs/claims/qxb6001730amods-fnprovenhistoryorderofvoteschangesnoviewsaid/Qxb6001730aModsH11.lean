import Derived.Test.Qxb6001730aModsH10
import Derived.Test.Qxb6001730aModsH5F
import Derived.Test.Qxb6001730aModsH5R
namespace Go.Proofs.Qxb6001730aMods
open Go.RowKit
attribute [local go_sem ↓] Go.wp_at_zero Go.wp_at_succ

set_option maxRecDepth 100000 in
theorem l8_early (a0 a1 a2 a3 : Option Addr) (n0 c0 n1 c1 n2 c2 n3 c3 : Nat) (w : World) (h : ¬ Fits n0 n1 n2 n3) (h0 : n0 ≤ 9223372036854775807) (h1 : n1 ≤ 9223372036854775807) (h2 : n2 ≤ 9223372036854775807) (h3 : n3 ≤ 9223372036854775807) :
    Calls Trym.prog 8 #[.slice a0 n0 c0, .slice a1 n1 c1, .slice a2 n2 c2, .slice a3 n3 c3] w fun e w' => e = .returned (.bool true) ∧ Below w.heap.size w w' := by
  have HN : Hid (¬ Fits n0 n1 n2 n3) := h
  clear h
  go_enter Trym.func8, Trym.ntmps8
  go_wp2_with fail
  refine (bytes29_any a0 a1 a2 a3 n0 c0 n1 c1 n2 c2 n3 c3 _ h0 h1 h2 h3).mono ?_
  rintro e w1 ⟨⟨r, rfl⟩, hw⟩
  subst hw
  cases r
  · go_wp2
    go_ret
    exact ⟨rfl, Below.refl _ _⟩
  go_wp2_with fail
  refine (fit21_any a0 a1 a2 a3 n0 c0 n1 c1 n2 c2 n3 c3 _ h0 h1 h2 h3).mono ?_
  rintro e w2 ⟨⟨r, rfl⟩, hw⟩
  subst hw
  cases r
  · go_wp2
    go_ret
    exact ⟨rfl, Below.refl _ _⟩
  go_wp2_with fail
  refine (fit22_no a0 a1 a2 a3 n0 c0 n1 c1 n2 c2 n3 c3 _ HN.out h0 h1 h2 h3).mono ?_
  rintro e w3 ⟨rfl, hw⟩
  subst hw
  go_wp2
  go_ret
  exact ⟨rfl, Below.refl _ _⟩

/-- What a slice holds that came in, nil or not. -/
def Holds (k : IntKind) (w : World) (a : Option Addr) (n : Nat) (z : Nat → Int) : Prop := 0 < n → ∃ b off, a = some ⟨b, off, none⟩ ∧ ∀ i, i < n → w.cell? ⟨b, off + i, none⟩ = some (.int k (z i))

theorem Holds.on {k : IntKind} {w w' : World} {a : Option Addr} {n : Nat} {z : Nat → Int} (h : Holds k w a n z) (hb : Below w.heap.size w w') : Holds k w' a n z := fun hn => by
  obtain ⟨b, off, e, hc⟩ := h hn
  exact ⟨b, off, e, fun i hi => cell_on hb (hc i hi)⟩

set_option maxHeartbeats 3200000 in
set_option maxRecDepth 100000 in
theorem l8_main (a0 a1 a2 a3 : Option Addr) (nv np c0 c1 c2 c3 : Nat) (st vt vw sq : Nat → Int) (w : World) (hnv : nv ≤ 65536) (hnp : np ≤ 4096) (hz : nv = 0 → np = 0)
    (H0 : Holds .u64 w a0 nv st) (H1 : Holds .u16 w a1 np vt) (H2 : Holds .u64 w a2 np vw) (H3 : Holds .u64 w a3 np sq) (hvr : ∀ i, i < np → 0 ≤ vt i ∧ vt i ≤ 65535) :
    Calls Trym.prog 8 #[.slice a0 nv c0, .slice a1 np c1, .slice a2 np c2, .slice a3 np c3] w fun e w' => e = .returned (.bool true) ∧ Below w.heap.size w w' := by
  have HVR : Hid (∀ i, i < np → 0 ≤ vt i ∧ vt i ≤ 65535) := hvr
  have HZ : Hid (nv = 0 → np = 0) := hz
  clear hvr hz
  go_enter Trym.func8, Trym.ntmps8
  go_wp2_with fail
  refine (bytes29_any a0 a1 a2 a3 nv c0 np c1 np c2 np c3 _ (by omega) (by omega) (by omega) (by omega)).mono ?_
  rintro e wx ⟨⟨r, rfl⟩, hw⟩
  obtain rfl := hw.symm
  clear hw
  cases r
  · go_wp2
    go_ret
    exact ⟨rfl, Below.refl _ _⟩
  go_wp2_with fail
  refine (fit21_any a0 a1 a2 a3 nv c0 np c1 np c2 np c3 _ (by omega) (by omega) (by omega) (by omega)).mono ?_
  rintro e wx ⟨⟨r, rfl⟩, hw⟩
  obtain rfl := hw.symm
  clear hw
  cases r
  · go_wp2
    go_ret
    exact ⟨rfl, Below.refl _ _⟩
  go_wp2_with fail
  refine (fit22_yes a0 a1 a2 a3 nv c0 c1 c2 np c3 _ hnv hnp HZ.out).mono ?_
  rintro e wx ⟨rfl, hw⟩
  obtain rfl := hw.symm
  clear hw
  go_wp2_with fail
  refine (clone64_opt a0 nv c0 st _ (by omega) H0).mono ?_
  rintro e w1 ⟨b0, rfl, e0, k0, hb1⟩
  go_wp2_with fail
  refine (clone16_opt a1 np c1 vt _ (by omega) (H1.on hb1)).mono ?_
  rintro e w2 ⟨b1, rfl, e1, k1, hb2⟩
  go_wp2_with fail
  refine (clone64_opt a2 np c2 vw _ (by omega) ((H2.on hb1).on hb2)).mono ?_
  rintro e w3 ⟨b2, rfl, e2, k2, hb3⟩
  go_wp2_with fail
  refine (clone64_opt a3 np c3 sq _ (by omega) (((H3.on hb1).on hb2).on hb3)).mono ?_
  rintro e w4 ⟨b3, rfl, e3, k3, hb4⟩
  have HB4 : Below w.heap.size w w4 := ((hb1.trans (hb2.mono hb1.size)).trans (hb3.mono (Nat.le_trans hb1.size hb2.size))).trans (hb4.mono (Nat.le_trans (Nat.le_trans hb1.size hb2.size) hb3.size))
  have K0 : Hid (∀ i, i < nv → w4.cell? ⟨w.heap.size, i, none⟩ = some (.int .u64 (st i))) := fun i hi => cell_on hb4 (cell_on hb3 (cell_on hb2 (k0 i hi)))
  have K1 : Hid (∀ i, i < np → w4.cell? ⟨w1.heap.size, i, none⟩ = some (.int .u16 (vt i))) := fun i hi => cell_on hb4 (cell_on hb3 (k1 i hi))
  have K2 : Hid (∀ i, i < np → w4.cell? ⟨w2.heap.size, i, none⟩ = some (.int .u64 (vw i))) := fun i hi => cell_on hb4 (k2 i hi)
  have K3 : Hid (∀ i, i < np → w4.cell? ⟨w3.heap.size, i, none⟩ = some (.int .u64 (sq i))) := k3
  have E0 : Hid (0 < nv → b0 = some ⟨w.heap.size, 0, none⟩) := e0
  have E1 : Hid (0 < np → b1 = some ⟨w1.heap.size, 0, none⟩) := e1
  have E2 : Hid (0 < np → b2 = some ⟨w2.heap.size, 0, none⟩) := e2
  have E3 : Hid (0 < np → b3 = some ⟨w3.heap.size, 0, none⟩) := e3
  clear k0 k1 k2 k3 e0 e1 e2 e3 hb1 hb2 hb3 hb4 H0 H1 H2 H3
  obtain ⟨sB, hsB⟩ : ∃ x, Hid (w.heap.size = x) := ⟨_, rfl⟩
  rw [hsB.out] at K0 E0
  generalize w1.heap.size = vB at K1 E1
  generalize w2.heap.size = wB at K2 E2
  generalize w3.heap.size = qB at K3 E3
  clear w1 w2 w3
  go_wp2_with fail
  refine (build_F b0 b1 b2 b3 sB vB wB qB nv np st vt vw sq w4 hnv hnp HZ.out E0.out K0.out E1.out K1.out HVR.out E2.out K2.out E3.out K3.out).mono ?_
  rintro e w5 ⟨rfl, pr1, pl1, F1⟩
  have hb5 := F1.old
  have K0' : Hid (∀ i, i < nv → w5.cell? ⟨sB, i, none⟩ = some (.int .u64 (st i))) := fun i hi => cell_on hb5 (K0.out i hi)
  have K1' : Hid (∀ i, i < np → w5.cell? ⟨vB, i, none⟩ = some (.int .u16 (vt i))) := fun i hi => cell_on hb5 (K1.out i hi)
  have K2' : Hid (∀ i, i < np → w5.cell? ⟨wB, i, none⟩ = some (.int .u64 (vw i))) := fun i hi => cell_on hb5 (K2.out i hi)
  have K3' : Hid (∀ i, i < np → w5.cell? ⟨qB, i, none⟩ = some (.int .u64 (sq i))) := fun i hi => cell_on hb5 (K3.out i hi)
  have V1 : Hid (Votes w5 _ nv _ _ _ _ _ _ _ _) := fill_votes F1 (fun p hp => hp) hnp
  have C1 : Hid (Pl.Covers sq vw np (fun q => inCell w5 q 1) (fun q => inCell w5 q 0) ((List.range nv).flatMap fun p => pl1 (id p))) := fill_covers F1 (fun p hp => hp) (fun _ _ => rfl)
  have HB5 := HB4.trans (hb5.mono HB4.size)
  clear K0 K1 K2 K3 HB4 F1
  go_wp2_with fail
  refine (build_R b0 b1 b2 b3 sB vB wB qB nv np st vt vw sq w5 hnv hnp HZ.out E0.out K0'.out E1.out K1'.out HVR.out E2.out K2'.out E3.out K3'.out).mono ?_
  rintro e w6 ⟨rfl, pr2, pl2, F2⟩
  have hb6 := F2.old
  have K0 : Hid (∀ i, i < nv → w6.cell? ⟨sB, i, none⟩ = some (.int .u64 (st i))) := fun i hi => cell_on hb6 (K0'.out i hi)
  have K3 : Hid (∀ i, i < np → w6.cell? ⟨qB, i, none⟩ = some (.int .u64 (sq i))) := fun i hi => cell_on hb6 (K3'.out i hi)
  have V1' : Hid (Votes w6 _ nv _ _ _ _ _ _ _ _) := V1.out.on hb6
  have V2 : Hid (Votes w6 _ nv _ _ _ _ _ _ _ _) := fill_votes F2 (fun p hp => by show nv - 1 - p < nv; omega) hnp
  have C2 : Hid (Pl.Covers sq vw np (fun q => inCell w6 q 1) (fun q => inCell w6 q 0) ((List.range nv).flatMap fun p => pl2 (nv - 1 - p))) := fill_covers F2 (fun p hp => by show nv - 1 - p < nv; omega) (fun p hp => by show nv - 1 - (nv - 1 - p) = p; omega)
  have HB6 := HB5.trans (hb6.mono HB5.size)
  clear K0' K1' K2' K3' V1 HB5 F2 hb5 hb6 HVR HZ E1 E2
  go_wp2_with fail
  refine (zz_any _ nv _ _ _ _ _ _ _ _ w6 hnv V1'.out).mono ?_
  rintro e w7 ⟨af1, tp1, s1, n1, x1, m1, rfl, M1, A1, Q1, hb7⟩
  have V2' : Hid (Votes w7 _ nv _ _ _ _ _ _ _ _) := V2.out.on hb7
  have V1'' : Hid (Votes w7 _ nv _ _ _ _ _ _ _ _) := V1'.out.on hb7
  have MM1 : Hid (MapIs w7 (w6.heap.size + 1) m1) := M1
  have A1' : Hid (AfterIs _ _ nv af1 (.slice s1 n1 x1)) := A1
  have Q1' : Hid (ProvedIs _ _ af1 tp1 m1 _) := Q1
  have HB7 := HB6.trans (hb7.mono HB6.size)
  have K0' : Hid (∀ i, i < nv → w7.cell? ⟨sB, i, none⟩ = some (.int .u64 (st i))) := fun i hi => cell_on hb7 (K0.out i hi)
  have K3' : Hid (∀ i, i < np → w7.cell? ⟨qB, i, none⟩ = some (.int .u64 (sq i))) := fun i hi => cell_on hb7 (K3.out i hi)
  clear M1 A1 Q1 V2 V1' K0 K3 HB6 hb7
  go_wp2_with fail
  refine (zz_any _ nv _ _ _ _ _ _ _ _ w7 hnv V2'.out).mono ?_
  rintro e w8 ⟨af2, tp2, s2, n2, x2, m2, rfl, M2, A2, Q2, hb8⟩
  have MM2 : Hid (MapIs w8 (w7.heap.size + 1) m2) := M2
  have MM1' : Hid (MapIs w8 (w6.heap.size + 1) m1) := MM1.out.of_block (hb8.block _ MM1.out.lt)
  have V2 : Hid (Votes w8 _ nv _ _ _ _ _ _ _ _) := V2'.out.on hb8
  have V1 : Hid (Votes w8 _ nv _ _ _ _ _ _ _ _) := V1''.out.on hb8
  have HB8 := HB7.trans (hb8.mono HB7.size)
  have K0 : Hid (∀ i, i < nv → w8.cell? ⟨sB, i, none⟩ = some (.int .u64 (st i))) := fun i hi => cell_on hb8 (K0'.out i hi)
  have K3 : Hid (∀ i, i < np → w8.cell? ⟨qB, i, none⟩ = some (.int .u64 (sq i))) := fun i hi => cell_on hb8 (K3'.out i hi)
  obtain ⟨eaf, etp, en, l1, l2, hn2⟩ := both (fun p hp => hp) (fun _ _ => rfl) (fun p hp => by show nv - 1 - p < nv; omega) (fun p hp => by show nv - 1 - (nv - 1 - p) = p; omega) A1'.out A2 Q1'.out Q2 C1.out C2.out
  subst eaf etp en
  have LK : Hid (∀ i, i < np → ∃ q1 q2 v, Pl.lk m1 (sq i) = some q1 ∧ Pl.lk m2 (sq i) = some q2 ∧ w8.cell? ⟨q1, 0, none⟩ = some (.int .u64 v) ∧ w8.cell? ⟨q2, 0, none⟩ = some (.int .u64 v) ∧ w8.cell? ⟨q1, 1, none⟩ = some (.int .u64 (sq i)) ∧ w8.cell? ⟨q2, 1, none⟩ = some (.int .u64 (sq i))) := by
    intro i hi
    obtain ⟨q1, hq1, hL1, he1⟩ := Pl.seen_look Q1'.out.1 C1.out i hi
    obtain ⟨q2, hq2, hL2, he2⟩ := Pl.seen_look Q2.1 C2.out i hi
    have hv := Pl.seen_view Q1'.out.1 C1.out Q2.1 C2.out hq1 hq2
    obtain ⟨p1, hp1, hm1⟩ := List.mem_flatMap.1 hL1
    obtain ⟨p2, hp2, hm2⟩ := List.mem_flatMap.1 hL2
    have c1 := V1.out.pps p1 (List.mem_range.1 hp1) q1 hm1
    have c2 := V2.out.pps p2 (List.mem_range.1 hp2) q2 hm2
    simp only [he1] at c1
    simp only [he2, ← hv] at c2
    exact ⟨q1, q2, _, hq1, hq2, c1.1, c2.1, c1.2, c2.2⟩
  have MK : Hid (n2 = 0 ∨ (n2 = 1 ∧ ∃ mk cs cp : Nat, mk < nv ∧ st mk = af2 ∧ s2 = some ⟨cs, 0, none⟩ ∧ w8.cell? ⟨cs, 0, none⟩ = some (.pointer (some ⟨cp, 0, none⟩)) ∧ w8.cell? ⟨cp, 1, none⟩ = some (.int .u64 mk))) := by
    rcases hn2 with h | ⟨h, p, hp, hs, ha⟩
    · exact Or.inl h
    · exact Or.inr ⟨h, nv - 1 - p, _, _, by omega, hs, ha, V2.out.ptr p hp, V2.out.seq p hp⟩
  have L1 : Hid (m1.length = Pl.dcnt sq np) := l1
  have L2 : Hid (m2.length = Pl.dcnt sq np) := l2
  clear l1 l2 hn2 Q1' A1' V1 V2 M2 A2 Q2 hb8 V2' V1'' MM1 HB7 K0' K3' C1 C2
  generalize w7.heap.size + 1 = mb2 at MM2 ⊢
  generalize w6.heap.size + 1 = mb1 at MM1' ⊢
  generalize w5.heap.size = g5
  generalize w4.heap.size = g4
  clear w7 w6 w5 w4 pr1 pl1 pr2 pl2
  go_wp2_with fail
  refine (seqs_opt b3 qB np np sq w8 (by omega) E3.out K3.out).mono ?_
  rintro e w9 ⟨rfl, hb9⟩
  have N1 : Hid (MapIs w9 mb1 m1) := MM1'.out.of_block (hb9.block _ MM1'.out.lt)
  have N2 : Hid (MapIs w9 mb2 m2) := MM2.out.of_block (hb9.block _ MM2.out.lt)
  have LK9 : Hid (∀ i, i < np → ∃ q1 q2 v, Pl.lk m1 (sq i) = some q1 ∧ Pl.lk m2 (sq i) = some q2 ∧ w9.cell? ⟨q1, 0, none⟩ = some (.int .u64 v) ∧ w9.cell? ⟨q2, 0, none⟩ = some (.int .u64 v) ∧ w9.cell? ⟨q1, 1, none⟩ = some (.int .u64 (sq i)) ∧ w9.cell? ⟨q2, 1, none⟩ = some (.int .u64 (sq i))) := fun i hi => by
    obtain ⟨q1, q2, v, h1, h2, h3, h4, h5, h6⟩ := LK.out i hi
    exact ⟨q1, q2, v, h1, h2, cell_on hb9 h3, cell_on hb9 h4, cell_on hb9 h5, cell_on hb9 h6⟩
  have MK9 : Hid (n2 = 0 ∨ (n2 = 1 ∧ ∃ mk cs cp : Nat, mk < nv ∧ st mk = af2 ∧ s2 = some ⟨cs, 0, none⟩ ∧ w9.cell? ⟨cs, 0, none⟩ = some (.pointer (some ⟨cp, 0, none⟩)) ∧ w9.cell? ⟨cp, 1, none⟩ = some (.int .u64 mk))) := by
    rcases MK.out with h | ⟨h, mk, cs, cp, h1, h2, h3, h4, h5⟩
    · exact Or.inl h
    · exact Or.inr ⟨h, mk, cs, cp, h1, h2, h3, cell_on hb9 h4, cell_on hb9 h5⟩
  have K9 : Hid (∀ i, i < nv → w9.cell? ⟨sB, i, none⟩ = some (.int .u64 (st i))) := fun i hi => cell_on hb9 (K0.out i hi)
  have KQ : Hid (∀ i, i < np → w9.cell? ⟨qB, i, none⟩ = some (.int .u64 (sq i))) := fun i hi => cell_on hb9 (K3.out i hi)
  have HB9 := HB8.trans (hb9.mono HB8.size)
  have hl1 : ∀ ty, (Builtin.len_ #[49] ty #[.map (some mb1)]).run Trym.prog w9 = .ok (.int .i64 (Pl.dcnt sq np : Nat)) w9 := fun ty => by rw [← L1.out]; exact map_len N1.out ty
  have hl2 : ∀ ty, (Builtin.len_ #[49] ty #[.map (some mb2)]).run Trym.prog w9 = .ok (.int .i64 (Pl.dcnt sq np : Nat)) w9 := fun ty => by rw [← L2.out]; exact map_len N2.out ty
  generalize Pl.dcnt sq np = D at hl1 hl2 ⊢
  clear L1 L2 LK MK MM1' MM2 K0 K3 hb9 HB8 w8
  rcases MK9.out with h | ⟨h, mk, cs, cp, h1, h2, h3, h4, h5⟩
  · subst h
    go_wp2
    clear hl1 hl2 MK9 K9
    go_loopw [22] (fun i wr => ∃ k : Nat, k ≤ np ∧ i = .int .i64 k ∧ Below w9.heap.size w9 wr) (fun i _ => np - (intOf i).toNat)
    case atStart => exact ⟨0, Nat.zero_le _, rfl, Below.refl _ _⟩
    case round =>
      obtain ⟨k, hk, rfl, hbr⟩ := hrel
      by_cases hlt : k < np
      · obtain rfl := E3.out (by omega)
        obtain ⟨q1, q2, v, t1, t2, t3, t4, t5, t6⟩ := LK9.out k hlt
        have y1 := cell_on hbr t3
        have y2 := cell_on hbr t4
        have y3 := cell_on hbr t5
        have y4 := cell_on hbr t6
        have y5 := cell_on hbr (KQ.out k hlt)
        have i1 : (k : Int) < (np : Int) := by omega
        have hget1 : (Instr.lookup 49 (.map (some mb1)) (.int .u64 (sq k)) false).run Trym.prog wr = .ok (.pointer (some ⟨q1, 0, none⟩)) wr := by
          have := map_get (N1.out.of_block (hbr.block _ N1.out.lt)) (sq k); rw [t1] at this; exact this
        have hget2 : (Instr.lookup 49 (.map (some mb2)) (.int .u64 (sq k)) false).run Trym.prog wr = .ok (.pointer (some ⟨q2, 0, none⟩)) wr := by
          have := map_get (N2.out.of_block (hbr.block _ N2.out.lt)) (sq k); rw [t2] at this; exact this
        clear t1 t2 t3 t4 t5 t6
        go_wp2
        go_quiet (fail)
        go_wp2
        go_roundw
        case rel => exact ⟨k + 1, by omega, by go_num, below_drewN hbr _⟩
        case measure => simp [intOf]; omega
      · go_wp2
        go_ret
        exact ⟨rfl, HB9.trans (hbr.mono HB9.size)⟩
  · subst h
    obtain rfl := E0.out (by omega)
    obtain rfl := h3
    have c1 : w9.cell? ⟨sB, mk, none⟩ = some (.int .u64 af2) := by rw [← h2]; exact K9.out mk h1
    have d1 : decide (nv ≤ mk) = false := decide_eq_false (by omega)
    have i2 : (mk : Int) < (nv : Int) := by omega
    clear h2
    go_wp2
    clear c1 d1 i2 h4 h5 h1
    clear hl1 hl2 MK9 K9
    go_loopw [22] (fun i wr => ∃ k : Nat, k ≤ np ∧ i = .int .i64 k ∧ Below w9.heap.size w9 wr) (fun i _ => np - (intOf i).toNat)
    case atStart => exact ⟨0, Nat.zero_le _, rfl, Below.refl _ _⟩
    case round =>
      obtain ⟨k, hk, rfl, hbr⟩ := hrel
      by_cases hlt : k < np
      · obtain rfl := E3.out (by omega)
        obtain ⟨q1, q2, v, t1, t2, t3, t4, t5, t6⟩ := LK9.out k hlt
        have y1 := cell_on hbr t3
        have y2 := cell_on hbr t4
        have y3 := cell_on hbr t5
        have y4 := cell_on hbr t6
        have y5 := cell_on hbr (KQ.out k hlt)
        have i1 : (k : Int) < (np : Int) := by omega
        have hget1 : (Instr.lookup 49 (.map (some mb1)) (.int .u64 (sq k)) false).run Trym.prog wr = .ok (.pointer (some ⟨q1, 0, none⟩)) wr := by
          have := map_get (N1.out.of_block (hbr.block _ N1.out.lt)) (sq k); rw [t1] at this; exact this
        have hget2 : (Instr.lookup 49 (.map (some mb2)) (.int .u64 (sq k)) false).run Trym.prog wr = .ok (.pointer (some ⟨q2, 0, none⟩)) wr := by
          have := map_get (N2.out.of_block (hbr.block _ N2.out.lt)) (sq k); rw [t2] at this; exact this
        clear t1 t2 t3 t4 t5 t6
        go_wp2
        go_quiet (fail)
        go_wp2
        go_roundw
        case rel => exact ⟨k + 1, by omega, by go_num, below_drewN hbr _⟩
        case measure => simp [intOf]; omega
      · go_wp2
        go_ret
        exact ⟨rfl, HB9.trans (hbr.mono HB9.size)⟩

end Go.Proofs.Qxb6001730aMods
