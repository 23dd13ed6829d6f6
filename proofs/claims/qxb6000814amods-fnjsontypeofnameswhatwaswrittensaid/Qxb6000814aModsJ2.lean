import Derived.Test.Qxb6000814aModsJ1
import Derived.Deep.RegionLaw
import Derived.Deep.DrawnRows
namespace Go.Proofs.Qxb6000814aMods
open Go.RowKit
attribute [local go_sem ↓] Go.wp_at_zero Go.wp_at_succ

theorem new_news (w : World) (cs : Array Value) (t : TypeId) : ∀ j u, cs.toList[j]? = some u → (w.alloc (.cells cs t)).cell? ((⟨w.heap.size, 0, none⟩ : Addr).add j) = some u :=
  World.news_of_block (Go.Deep.blk_alloc_new w (.cells cs t))

/-- What has been written so far behind xs: a quote and more. -/
def QuotIs (base : Nat) (w0 wr : World) (xs : List Value) (lim : Nat) (v : Value) : Prop :=
  ∃ g cap m ys, v = .slice (some ⟨g, 0, none⟩) m cap ∧ wr.ownsRow base 5 1 (.slice (some ⟨g, 0, none⟩) m cap) m (xs ++ .int .u8 34 :: ys) ∧ 0 < m ∧ m ≤ lim ∧ Below base w0 wr

theorem quot_step {base : Nat} {w0 wr X w1 : World} {xs ys news : List Value} {lim g cap m g' cap' l : Nat} (hb : Below base w0 wr) (hbase : base ≤ w0.heap.size) (hm : 0 < m) (hml : m ≤ lim) (hl : l ≤ 6) {o : Obj}
    (hown : wr.ownsRow base 5 1 (.slice (some ⟨g, 0, none⟩) m cap) m (xs ++ .int .u8 34 :: ys))
    (hXh : X.heap = (wr.alloc o).heap) (hXo : X.os = wr.os) (hXt : X.tape = wr.tape) (hXu : X.output = wr.output)
    (hown1 : w1.ownsRow base 5 1 (.slice (some ⟨g', 0, none⟩) (m + l) cap') (m + l) ((xs ++ .int .u8 34 :: ys) ++ news)) (hgrow : X.grownBy w1 (Value.ownBlock (.slice (some ⟨g, 0, none⟩) m cap))) :
    QuotIs base w0 w1 xs (lim + 6) (.slice (some ⟨g', 0, none⟩) (m + l) cap') := by
  refine ⟨g', cap', m + l, ys ++ news, rfl, ?_, by omega, by omega, ?_⟩
  · rw [List.append_assoc, List.cons_append] at hown1; exact hown1
  · have hbs := hb.size
    have b0 := hb.alloc (Nat.le_trans hbase hbs) o
    have b1 : Below base w0 X := ⟨hXo.trans hb.os, hXt.trans hb.tape, hXu.trans hb.output, by rw [hXh]; exact b0.size, fun k hk => by rw [hXh]; exact b0.block k hk⟩
    exact b1.grown hgrow (Nat.le_trans hbase b1.size) (fun k hk => (hown.lt k hk).1)

theorem own_on {base : Nat} {wr X : World} {v : Value} {m : Nat} {xs : List Value} {o : Obj} (h : wr.ownsRow base 5 1 v m xs) (hXh : X.heap = (wr.alloc o).heap) : X.ownsRow base 5 1 v m xs := by
  have h0 := h.alloc o
  unfold World.ownsRow at h0 ⊢
  rw [hXh]; exact h0

theorem news_on {w X : World} {cs : Array Value} {t : TypeId} (hX : X.heap = (w.alloc (.cells cs t)).heap) : ∀ j u, cs.toList[j]? = some u → X.cell? ((⟨w.heap.size, 0, none⟩ : Addr).add j) = some u :=
  World.news_of_block (by rw [hX]; exact Go.Deep.blk_alloc_new w (.cells cs t))

theorem blk_new {w X : World} {o : Obj} (hX : X.heap = (w.alloc o).heap) : X.heap[w.heap.size]? = some o := by
  rw [hX]; exact Go.Deep.blk_alloc_new w o

theorem six_ok (a b c d e f : Int) : ∀ u ∈ (#[.int .u8 a, .int .u8 b, .int .u8 c, .int .u8 d, .int .u8 e, .int .u8 f] : Array Value).toList, u.oneCell' = true := by
  intro u hu
  simp at hu
  rcases hu with rfl | rfl | rfl | rfl | rfl | rfl <;> rfl

/-- The append of the drawn region of zzAppendQuoted. -/
theorem stepB (W : World) {ops : Array Oper} {o : Oper} {a : Act} {K : Act → World → Prop} {Q : Exit → Act → World → Prop} {E : Prop} (hgd : o.guard = none)
    (ho : o.op = .call { callee := .builtin .append, args := #[.tmp 31, .tmp 38], argTypes := #[23, 23] })
    (base : Nat) (v : Value) (n : Nat) (xs : List Value) (hs : a.eval (.tmp 31) = v) (hown : W.ownsRow base 5 1 v n xs) (Bn m c : Nat) (hx : a.eval (.tmp 38) = .slice (some ⟨Bn, 0, none⟩) m c)
    (hB : ∃ cs : Array Value, W.heap[Bn]? = some (.cells cs 5) ∧ cs.size = m ∧ ∀ u ∈ cs.toList, u.oneCell' = true) (hm : 0 < m) (hb : n + m ≤ 100000000) (hbase : base ≤ W.heap.size)
    (h : ∀ news g cap w', w'.ownsRow base 5 1 (.slice (some ⟨g, 0, none⟩) (n + m) cap) (n + m) (xs ++ news) → W.grownBy w' v.ownBlock → K (a.put o.dst (.slice (some ⟨g, 0, none⟩) (n + m) cap)) w') :
    if Region.wanted o (yielded ops a.tmps) = true then Oper.wp Trym.prog o a W K Q else E := by
  obtain ⟨i0, hi0, hzz⟩ := Option.map_eq_some_iff.1 Trym.info5
  simp only [Prod.mk.injEq] at hzz
  obtain ⟨hz0, hz1, hz2⟩ := hzz
  obtain ⟨cs, h1, h2, h3⟩ := hB
  exact step_append_lies W hgd (.tmp 31) (.tmp 38) 23 ho base 5 i0 (.int .u8 0) 1 1 Trym.underlying23 hi0 hz0 hz1 hz2 rfl (by decide) v n xs hs hown ⟨Bn, 0, none⟩ m c cs.toList hx (by rw [Array.length_toList, h2]; omega) (World.news_of_block h1) h3 hm (by unfold maxLen; omega) (by omega) hbase W.heap.size rfl
    (fun g cap w' h4 h5 _ _ => h cs.toList g cap w' h4 h5)

set_option maxHeartbeats 800000 in
theorem quoted_any (base n : Nat) (v : Value) (xs : List Value) (s : ByteArray) (w : World) (hs : s.size ≤ 1048576) (hn : n ≤ 1000) (hown : w.ownsRow base 5 1 v n xs) (hbase : base ≤ w.heap.size) :
    Calls Trym.prog 6 #[v, .string s] w fun e w' => ∃ v', e = .returned v' ∧ QuotIs base w w' xs (n + 1 + 6 * s.size + 6) v' := by
  have HO : Hid (w.ownsRow base 5 1 v n xs) := hown
  have hrow : ∀ k, v.ownBlock = some k → base ≤ k := fun k hk => (hown.lt k hk).1
  have HR : Hid (∀ k, v.ownBlock = some k → base ≤ k) := hrow
  clear hown hrow
  go_enter Trym.func6, Trym.ntmps6
  go_wp2_with (first | (at_builtin; refine app_bytes _ rfl _ _ rfl base v n xs rfl (HO.out.alloc _) ⟨w.heap.size, 0, none⟩ 1 1 [.int .u8 34] rfl rfl (new_news w #[.int .u8 34] 5) ?_ (by decide) (by omega) ?_ ?_; (intro u hu; simp at hu; subst hu; rfl); (simp; omega); intro g cap w1 hown1 hgrow1))
  have HQ0 : Hid (QuotIs base w w1 xs (n + 1 + 6 * 0) (.slice (some ⟨g, 0, none⟩) (n + 1) cap)) := ⟨g, cap, n + 1, [], rfl, hown1, by omega, by omega, ((Below.refl base w).alloc hbase _).grown hgrow1 (by simp; omega) HR.out⟩
  clear hown1 hgrow1 HO HR
  go_loopw [0, 5] (fun d i wr => ∃ k : Nat, k ≤ s.size ∧ i = .int .i64 k ∧ QuotIs base w wr xs (n + 1 + 6 * k) d) (fun _ i _ => s.size - (intOf i).toNat)
  case atStart => exact ⟨0, Nat.zero_le _, rfl, HQ0.out⟩
  case round =>
    clear HQ0
    obtain ⟨k, hk, rfl, g2, cap2, m, ys, rfl, hown, hm, hml, hbr⟩ := hrel
    have HO : Hid (wr.ownsRow base 5 1 (.slice (some ⟨g2, 0, none⟩) m cap2) m (xs ++ .int .u8 34 :: ys)) := hown
    have hbw := Nat.le_trans hbase hbr.size
    clear hown
    by_cases hlt : k < s.size
    · by_cases hq1 : (s[k].toNat : Int) = 34
      · have e1 : ((s[k].toNat : Int) == 34) = true := by simp [hq1]
        clear hq1
        go_wp2_with (first | (at_builtin; refine app_bytes _ rfl _ _ rfl base _ m (xs ++ .int .u8 34 :: ys) rfl (own_on HO.out rfl) ⟨wr.heap.size, 0, none⟩ 2 2 [.int .u8 92, .int .u8 (s[k].toNat : Int)] rfl rfl (new_news wr #[.int .u8 92, .int .u8 (s[k].toNat : Int)] 5) ?_ (by decide) (by omega) ?_ ?_; (intro u hu; simp at hu; first | (subst hu; rfl) | (rcases hu with rfl | rfl <;> rfl)); (simp; omega); intro g' cap' w1 hown1 hgrow1))
        have HQ := quot_step hbr hbase hm hml (by decide : 2 ≤ 6) HO.out rfl rfl rfl rfl hown1 hgrow1
        clear hown1 hgrow1
        go_roundw
        case rel => exact ⟨k + 1, by omega, by go_num, by have := HQ; rw [show n + 1 + 6 * k + 6 = n + 1 + 6 * (k + 1) by omega] at this; exact this⟩
        case measure => simp [intOf]; omega
      have e1 : ((s[k].toNat : Int) == 34) = false := by simp [hq1]
      clear hq1
      by_cases hq2 : (s[k].toNat : Int) = 92
      · have e2 : ((s[k].toNat : Int) == 92) = true := by simp [hq2]
        clear hq2
        go_wp2_with (first | (at_builtin; refine app_bytes _ rfl _ _ rfl base _ m (xs ++ .int .u8 34 :: ys) rfl (own_on HO.out rfl) ⟨wr.heap.size, 0, none⟩ 2 2 [.int .u8 92, .int .u8 (s[k].toNat : Int)] rfl rfl (new_news wr #[.int .u8 92, .int .u8 (s[k].toNat : Int)] 5) ?_ (by decide) (by omega) ?_ ?_; (intro u hu; simp at hu; first | (subst hu; rfl) | (rcases hu with rfl | rfl <;> rfl)); (simp; omega); intro g' cap' w1 hown1 hgrow1))
        have HQ := quot_step hbr hbase hm hml (by decide : 2 ≤ 6) HO.out rfl rfl rfl rfl hown1 hgrow1
        clear hown1 hgrow1
        go_roundw
        case rel => exact ⟨k + 1, by omega, by go_num, by have := HQ; rw [show n + 1 + 6 * k + 6 = n + 1 + 6 * (k + 1) by omega] at this; exact this⟩
        case measure => simp [intOf]; omega
      have e2 : ((s[k].toNat : Int) == 92) = false := by simp [hq2]
      clear hq2
      by_cases hq3 : (s[k].toNat : Int) < 32
      · go_wp2
        generalize hcc : s[k].toNat = cc at e1 e2 hq3 ⊢
        clear hcc
        have hc32 : cc < 32 := by omega
        obtain ⟨p, hp, hp16⟩ : ∃ p : Nat, (cc : Int) / 16 = (p : Int) ∧ (p : Int) < 16 := ⟨cc / 16, by omega, by omega⟩
        obtain ⟨q, hq, hq16⟩ : ∃ q : Nat, bits .and .u8 (cc : Int) 15 = (q : Int) ∧ (q : Int) < 16 := ⟨cc &&& 15, by
          have := u8_and (cc : Int) 15 (by omega) (by omega) (by omega) (by omega); rw [this]; rfl, by
          have : cc &&& 15 ≤ 15 := Nat.and_le_right; omega⟩
        go_region_law ((refine stepB _ (by rfl) (by rfl) base (.slice (some ⟨g2, 0, none⟩) m cap2) m (xs ++ .int .u8 34 :: ys) (by rfl) (own_on HO.out (by rfl)) wr.heap.size 6 6 (by rfl) (by exact ⟨_, blk_new rfl, rfl, six_ok _ _ _ _ _ _⟩) (by decide) (by omega) (by simp; omega) ?_; intro news g' cap' w1 hown1 hgrow1))
        all_goals
          have HQ := quot_step hbr hbase hm hml (by decide : 6 ≤ 6) HO.out (by rfl) (by rfl) (by rfl) (by rfl) hown1 hgrow1
          clear hown1 hgrow1 hp hq
          go_wp2
          go_roundw
          case rel => exact ⟨k + 1, by omega, by go_num, by have := HQ; rw [show n + 1 + 6 * k + 6 = n + 1 + 6 * (k + 1) by omega] at this; exact this⟩
          case measure => simp [intOf]; omega
      · go_wp2_with (first | (at_builtin; refine app_bytes _ rfl _ _ rfl base _ m (xs ++ .int .u8 34 :: ys) rfl (own_on HO.out rfl) ⟨wr.heap.size, 0, none⟩ 1 1 [.int .u8 (s[k].toNat : Int)] rfl rfl (new_news wr #[.int .u8 (s[k].toNat : Int)] 5) ?_ (by decide) (by omega) ?_ ?_; (intro u hu; simp at hu; first | (subst hu; rfl) | (rcases hu with rfl | rfl <;> rfl)); (simp; omega); intro g' cap' w1 hown1 hgrow1))
        have HQ := quot_step hbr hbase hm hml (by decide : 1 ≤ 6) HO.out rfl rfl rfl rfl hown1 hgrow1
        clear hown1 hgrow1
        go_roundw
        case rel => exact ⟨k + 1, by omega, by go_num, by have := HQ; rw [show n + 1 + 6 * k + 6 = n + 1 + 6 * (k + 1) by omega] at this; exact this⟩
        case measure => simp [intOf]; omega
    · obtain rfl : k = s.size := by omega
      go_wp2_with (first | (at_builtin; refine app_bytes _ rfl _ _ rfl base _ m (xs ++ .int .u8 34 :: ys) rfl (own_on HO.out rfl) ⟨wr.heap.size, 0, none⟩ 1 1 [.int .u8 34] rfl rfl (new_news wr #[.int .u8 34] 5) ?_ (by decide) (by omega) ?_ ?_; (intro u hu; simp at hu; subst hu; rfl); (simp; omega); intro g' cap' w1 hown1 hgrow1))
      have HQ := quot_step hbr hbase hm hml (by decide : 1 ≤ 6) HO.out rfl rfl rfl rfl hown1 hgrow1
      clear hown1 hgrow1
      go_ret
      exact ⟨_, rfl, HQ⟩

end Go.Proofs.Qxb6000814aMods
