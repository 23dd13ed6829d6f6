import Derived.Test.Qxb6001730aModsL1
namespace Go.Proofs.Qxb6001730aMods
open Go.RowKit
attribute [local go_sem ↓] Go.wp_at_zero Go.wp_at_succ

theorem bytes14_yes (a : Option Addr) (n c : Nat) (x y : Int) (w : World) (h : n ≤ 1048576) :
    Calls Trym.prog 14 #[.slice a n c, .int .u64 x, .int .u64 y] w fun e w' => e = .returned (.bool true) ∧ w' = w := by
  go_enter Trym.func14, Trym.ntmps14
  go_wp2
  go_ret
  exact ⟨rfl, rfl⟩

theorem bytes14_no (a : Option Addr) (n c : Nat) (x y : Int) (w : World) (h : 1048576 < n) :
    Calls Trym.prog 14 #[.slice a n c, .int .u64 x, .int .u64 y] w fun e w' => e = .returned (.bool false) ∧ w' = w := by
  go_enter Trym.func14, Trym.ntmps14
  go_wp2
  go_ret
  exact ⟨rfl, rfl⟩

theorem l2_short (a : Option Addr) (n c : Nat) (V s : Int) (w : World) (hn : n < 2) :
    Calls Trym.prog 4 #[.slice a n c, .int .u64 V, .int .u64 s] w fun e w' => e = .returned (.bool true) ∧ Below w.heap.size w w' := by
  have hd : decide ((n : Int) < 2) = true := decide_eq_true (by omega)
  go_enter Trym.func4, Trym.ntmps4
  go_wp2_with (first | (go_at_call 14; refine (bytes14_yes _ _ _ _ _ _ (by omega)).mono ?_; rintro e w' ⟨rfl, rfl⟩))
  go_ret
  exact ⟨rfl, Below.refl _ _⟩

theorem l2_long (a : Option Addr) (n c : Nat) (V s : Int) (w : World) (hn : 4096 < n) :
    Calls Trym.prog 4 #[.slice a n c, .int .u64 V, .int .u64 s] w fun e w' => e = .returned (.bool true) ∧ Below w.heap.size w w' := by
  by_cases h1 : n ≤ 1048576
  · by_cases h2 : n ≤ 131072
    · go_enter Trym.func4, Trym.ntmps4
      go_wp2_with (first | (go_at_call 14; refine (bytes14_yes _ _ _ _ _ _ (by omega)).mono ?_; rintro e w' ⟨rfl, rfl⟩))
      go_ret
      exact ⟨rfl, Below.refl _ _⟩
    · go_enter Trym.func4, Trym.ntmps4
      go_wp2_with (first | (go_at_call 14; refine (bytes14_yes _ _ _ _ _ _ (by omega)).mono ?_; rintro e w' ⟨rfl, rfl⟩))
      go_ret
      exact ⟨rfl, Below.refl _ _⟩
  · go_enter Trym.func4, Trym.ntmps4
    go_wp2_with (first | (go_at_call 14; refine (bytes14_no _ _ _ _ _ _ (by omega)).mono ?_; rintro e w' ⟨rfl, rfl⟩))
    go_ret
    exact ⟨rfl, Below.refl _ _⟩

theorem u64_fit (n : Int) (h0 : 0 ≤ n) (h1 : n < 18446744073709551616) : IntKind.u64.wrap n = n := by rw [IntKind.wrap_u64]; omega
theorem i64_fit (n : Int) (h0 : 0 ≤ n) (h1 : n < 9223372036854775808) : IntKind.i64.wrap n = n := by rw [IntKind.wrap_i64]; omega

/-- A follower, by its index j = k + 1 of n = m + 1; the arguments as the walk spells them. -/
theorem checks_nat (gb pb n m k s j : Nat) (V S v : Int) (x y : Value) (z : Nat → Int) (w : World) (hn : n ≤ 1048576) (hk : k < m) (hs : s < 18446744073709551616) (hm1 : m < n) (hm2 : n ≤ m + 1)
    (hj : j = k + 1) (hS : S = (s : Int))
    (hg : w.cell? ⟨gb, 0, none⟩ = some (.slice (some ⟨pb, 0, none⟩) n n)) (hc : ∀ i, i < n → w.cell? ⟨pb, i, none⟩ = some (.int .i64 (z i)))
    (hV : bits .and .u64 V 4294967295 = 0) (hd : ∀ p, p < n → ∀ q, q < p → z p ≠ z q) (hv : v = z j) (B : Bool) (hB : Pl.chk m k s = B) :
    Calls Trym.prog 13 #[.agg #[.pointer (some ⟨gb, 0, none⟩), x, y], .int .i64 v, .int .u64 V, .int .u64 S] w fun e w' => e = .returned (.bool B) ∧ Below w.heap.size w w' := by
  subst hS hv hj hB
  obtain rfl : n = m + 1 := by omega
  exact checks_foll gb pb 0 m (m + 1) k s V (z (k + 1)) x y z w hn (by omega) hs (fun i hi => by simpa using hc i hi) hg hV rfl (fun q hq h => hd (k + 1) (by omega) q hq h.symm)

set_option maxHeartbeats 800000 in
theorem l2_main (b off n m c V s : Nat) (z : Nat → Int) (w : World) (hm0 : 0 < m) (hm1 : m < n) (hm2 : n ≤ m + 1) (hn : n ≤ 4096) (hV : V < 18446744073709551616) (hs : s < 18446744073709551616)
    (hc : ∀ i, i < n → w.cell? ⟨b, off + i, none⟩ = some (.int .i64 (z i))) :
    Calls Trym.prog 4 #[.slice (some ⟨b, off, none⟩) n c, .int .u64 V, .int .u64 s] w fun e w' => e = .returned (.bool true) ∧ Below w.heap.size w w' := by
  have hbl : b < w.heap.size := World.block_lt_of_cell? _ _ (hc 0 (by omega))
  have HC : Hid (∀ i, i < n → w.cell? ⟨b, off + i, none⟩ = some (.int .i64 (z i))) := hc
  clear hc
  have hd : decide ((n : Int) < 2) = false := decide_eq_false (by omega)
  have hnm : (n : Int) - 1 = (m : Int) := by omega
  go_enter Trym.func4, Trym.ntmps4
  go_wp2_with (first | (go_at_call 14; refine (bytes14_yes _ _ _ _ _ _ (by omega)).mono ?_; rintro e w' ⟨rfl, rfl⟩))
  refine (distinct_any b off n c z _ (by omega) HC.out).mono ?_
  rintro e w1 ⟨⟨r, rfl, hr⟩, hb1⟩
  have HR : Hid (r = true → ∀ p, p < n → ∀ q, q < p → z p ≠ z q) := hr
  clear hr
  cases r
  · go_wp2
    go_ret
    exact ⟨rfl, hb1⟩
  by_cases hbig : 18446744073709551616 < s + m
  · go_wp2_with fail
    go_ret
    exact ⟨rfl, hb1⟩
  go_wp2_with fail
  refine (clone_any b off n c z w1 (by omega) (fun i hi => (hb1.cell (p := ⟨b, off + i, none⟩) hbl).trans (HC.out i hi))).mono ?_
  rintro e w2 ⟨rfl, hrow, hb2⟩
  have HW : Hid (w2.rowIs w1.heap.size 3 n (fun i => .int .i64 (z i))) := hrow
  clear hrow
  go_wp2_with fail
  refine (groups_any _ _ _ _ _ _ _).mono ?_
  rintro e w3 ⟨rfl, hg0, hg1, hb3⟩
  have hV0 := saving_round V hV
  have hmax : ((s : Int) != 18446744073709551615) = true ∨ ((s : Int) != 18446744073709551615) = false := by cases ((s : Int) != 18446744073709551615) <;> simp
  rcases hmax with hmax | hmax
  · have hs1 : (s : Int) + 1 < 18446744073709551616 := by have := bne_iff_ne.1 hmax; omega
    go_wp2
    have HLx := lies_new (r := .slice none 0 0) HW.out hb3 hg0 hg1
    have HBx : Below w'.heap.size w' (w3.alloc (.cells #[.pointer (some ⟨w2.heap.size + 1, 0, none⟩), .slice none 0 0, .slice none 0 0] 31)) :=
      ((hb1.trans (hb2.mono hb1.size)).trans (hb3.mono (Nat.le_trans hb1.size hb2.size))).alloc (Nat.le_trans (Nat.le_trans hb1.size hb2.size) hb3.size) _
    generalize w3.alloc (.cells #[.pointer (some ⟨w2.heap.size + 1, 0, none⟩), .slice none 0 0, .slice none 0 0] 31) = w4 at HLx HBx ⊢
    generalize w3.heap.size = gl at HLx ⊢
    generalize w2.heap.size + 1 = gb at HLx ⊢
    generalize w1.heap.size = pb at HLx ⊢
    clear hg0 hg1 hb3 HW hb2 hb1 HC hbl
    clear w3 w2 w1
    go_loopw [9] (fun i wr => ∃ k : Nat, k ≤ m ∧ i = .int .i64 k ∧ Lies wr gl gb pb n (.slice none 0 0) z ∧ Below w'.heap.size w' wr) (fun i _ => m - (intOf i).toNat)
    case atStart => exact ⟨0, Nat.zero_le _, rfl, HLx, HBx⟩
    case round =>
      obtain ⟨k, hk, rfl, HLr, HBr⟩ := hrel
      clear HLx HBx
      by_cases hlt : k < m
      · obtain ⟨nx, hnx, hnm2, hnk⟩ : ∃ nx : Nat, ((k : Int) + 1) % (m : Int) = nx ∧ nx < m ∧ Hid (nx = (k + 1) % m) := ⟨(k + 1) % m, by rw [Int.natCast_emod]; rfl, Nat.mod_lt _ hm0, rfl⟩
        obtain ⟨B, hB1, hB2⟩ : ∃ B : Bool, Hid (Pl.chk m k s = B) ∧ Hid (Pl.chk m nx (s + 1) = B) := ⟨Pl.chk m k s, rfl, by rw [hnk.out, ← Pl.chk_pass m k s hlt]; rfl⟩
        clear hnk
        go_wp2
        have i1 : 1 + (k : Int) < (n : Int) := by omega
        have j1 : (0 : Int) ≤ 1 + (k : Int) := by omega
        have j2 : (0 : Int) ≤ 1 + (nx : Int) := by omega
        have t1 : (1 + (k : Int)).toNat = 1 + k := by omega
        have t2 : (1 + (nx : Int)).toNat = 1 + nx := by omega
        have q1 := i64_fit (1 + (k : Int)) (by omega) (by omega)
        have q2 := i64_fit (1 + (nx : Int)) (by omega) (by omega)
        have q3 := u64_fit ((s : Int) + 1) (by omega) hs1
        have i2 : 1 + (nx : Int) < (n : Int) := by omega
        have ⟨g0, g1, g2, _, _, _⟩ := HLr
        have p0 := HLr.ps (1 + k) (by omega)
        have p1 := HLr.ps (1 + nx) (by omega)
        have HL' : Hid (Lies wr.drew gl gb pb n (.slice none 0 0) z) := HLr.on (Below.refl _ _).drew
        clear HLr
        go_region_held3 (fun W => W.cell? ⟨gl, 0, none⟩ = some (.pointer (some ⟨gb, 0, none⟩)) ∧ W.cell? ⟨gl, 1, none⟩ = some (.slice none 0 0) ∧ W.cell? ⟨gl, 2, none⟩ = some (.slice none 0 0) ∧ W.cell? ⟨pb, 1 + k, none⟩ = some (.int .i64 (z (1 + k))) ∧ W.cell? ⟨pb, 1 + nx, none⟩ = some (.int .i64 (z (1 + nx))))
          (go_keep)
          (first
            | (go_at_call_of 13 (Value.int IntKind.u64 (s : Int)); refine (checks_nat gb pb n m k s (1 + k) _ _ _ _ _ z wr.drew (by omega) (by omega) (by omega) hm1 hm2 (by omega) rfl HL'.out.h0 HL'.out.ps hV0 (HR.out trivial) rfl B hB1.out).mono ?_; rintro e w5 ⟨rfl, hb5⟩; have k0 := cell_on hb5 HL'.out.g0; have k1 := cell_on hb5 HL'.out.g1; have k2 := cell_on hb5 HL'.out.g2; have k3 := cell_on hb5 (HL'.out.ps (1 + k) (by omega)); have k4 := cell_on hb5 (HL'.out.ps (1 + nx) (by omega)); have HL5 : Hid (Lies w5 gl gb pb n (.slice none 0 0) z) := HL'.out.on hb5)
            | (go_at_call 13; refine (checks_nat gb pb n m nx (s + 1) (1 + nx) _ _ _ _ _ z w5 (by omega) (by omega) (by omega) hm1 hm2 (by omega) (by omega) HL5.out.h0 HL5.out.ps hV0 (HR.out trivial) rfl B hB2.out).mono ?_; rintro e w6 ⟨rfl, hb6⟩; have k0 := cell_on hb6 HL5.out.g0; have k1 := cell_on hb6 HL5.out.g1; have k2 := cell_on hb6 HL5.out.g2; have k3 := cell_on hb6 (HL5.out.ps (1 + k) (by omega)); have k4 := cell_on hb6 (HL5.out.ps (1 + nx) (by omega))))
        have HLw := HL5.out.on hb6
        have HBw := (HBr.drew.trans (hb5.mono HBr.size)).trans (hb6.mono (Nat.le_trans HBr.size hb5.size))
        clear k0 k1 k2 k3 k4 g0 g1 g2 p0 p1 hb5 hb6 HL' HL5 HBr
        clear q1 q2 q3 t1 t2 j1 j2 i1 i2 hnx hs1 hbig
        go_wp2
        go_roundw
        case rel => exact ⟨k + 1, by omega, by go_num, HLw, HBw⟩
        case measure => simp [intOf]; omega
      · have HLx := HLr
        have HBx := HBr
        clear HLr HBr
        go_wp2
        go_loopw [11, 12] (fun ch i wr => ∃ k : Nat, k ≤ m ∧ i = .int .i64 k ∧ ch = .int .i64 (Pl.cnt (fun d => Pl.chk m 0 (s + d)) k : Nat) ∧ Lies wr gl gb pb n (.slice none 0 0) z ∧ Below w'.heap.size w' wr) (fun _ i _ => m - (intOf i).toNat)
        case atStart => exact ⟨0, Nat.zero_le _, rfl, rfl, HLx, HBx⟩
        case round =>
          obtain ⟨k, hk, rfl, rfl, HLr, HBr⟩ := hrel
          have hle := Pl.cnt_le (fun d => Pl.chk m 0 (s + d)) k
          have hsu : Hid (Pl.cnt (fun d => Pl.chk m 0 (s + d)) (k + 1) = Pl.cnt (fun d => Pl.chk m 0 (s + d)) k + if Pl.chk m 0 (s + k) then 1 else 0) := rfl
          have HCT : Hid (Pl.cnt (fun d => Pl.chk m 0 (s + d)) m = m / 2) := Pl.chk_turns m s hm0
          clear HLx HBx
          generalize hC : Pl.cnt (fun d => Pl.chk m 0 (s + d)) = C at hle hsu HCT ⊢
          clear hC
          by_cases hlt : k < m
          · go_wp2
            have i1 : (1 : Int) < (n : Int) := by omega
            have hsk : (s : Int) + (k : Int) < 18446744073709551616 := by omega
            have q1 := u64_fit (k : Int) (by omega) (by omega)
            have q2 := u64_fit ((s : Int) + (k : Int)) (by omega) hsk
            have ⟨g0, g1, g2, _, _, _⟩ := HLr
            have p0 := HLr.ps 1 (by omega)
            have HL' : Hid (Lies wr.drew gl gb pb n (.slice none 0 0) z) := HLr.on (Below.refl _ _).drew
            clear HLr
            go_region_held3 (fun W => W.cell? ⟨gl, 0, none⟩ = some (.pointer (some ⟨gb, 0, none⟩)) ∧ W.cell? ⟨gl, 1, none⟩ = some (.slice none 0 0) ∧ W.cell? ⟨gl, 2, none⟩ = some (.slice none 0 0) ∧ W.cell? ⟨pb, 1, none⟩ = some (.int .i64 (z 1)))
              (go_keep)
              (first | (go_at_call 13; refine (checks_nat gb pb n m 0 (s + k) 1 _ _ _ _ _ z wr.drew (by omega) (by omega) (by omega) hm1 hm2 rfl (by omega) HL'.out.h0 HL'.out.ps hV0 (HR.out trivial) rfl _ rfl).mono ?_; rintro e w5 ⟨rfl, hb5⟩; have k0 := cell_on hb5 HL'.out.g0; have k1 := cell_on hb5 HL'.out.g1; have k2 := cell_on hb5 HL'.out.g2; have k3 := cell_on hb5 (HL'.out.ps 1 (by omega))))
            clear k0 k1 k2 k3 g0 g1 g2 p0
            have HLw := HL'.out.on hb5
            have HBw := HBr.drew.trans (hb5.mono HBr.size)
            clear hb5 HL' HBr
            cases hw : Pl.chk m 0 (s + k)
            · have HWH : Hid (Pl.chk m 0 (s + k) = false) := hw
              go_wp2
              go_roundw
              case rel => exact ⟨k + 1, by omega, by go_num, by rw [hsu.out, HWH.out]; rfl, HLw, HBw⟩
              case measure => simp [intOf]; omega
            · have HWH : Hid (Pl.chk m 0 (s + k) = true) := hw
              go_wp2
              go_roundw
              case rel => exact ⟨k + 1, by omega, by go_num, by rw [hsu.out, HWH.out]; go_num, HLw, HBw⟩
              case measure => simp [intOf]; omega
          · obtain rfl : k = m := by omega
            go_wp2
            go_ret
            exact ⟨ret_bool (by simp only [HCT.out]; simp), HBr⟩
  · go_wp2
    have HLx := lies_new (r := .slice none 0 0) HW.out hb3 hg0 hg1
    have HBx : Below w'.heap.size w' (w3.alloc (.cells #[.pointer (some ⟨w2.heap.size + 1, 0, none⟩), .slice none 0 0, .slice none 0 0] 31)) :=
      ((hb1.trans (hb2.mono hb1.size)).trans (hb3.mono (Nat.le_trans hb1.size hb2.size))).alloc (Nat.le_trans (Nat.le_trans hb1.size hb2.size) hb3.size) _
    generalize w3.alloc (.cells #[.pointer (some ⟨w2.heap.size + 1, 0, none⟩), .slice none 0 0, .slice none 0 0] 31) = w4 at HLx HBx ⊢
    generalize w3.heap.size = gl at HLx ⊢
    generalize w2.heap.size + 1 = gb at HLx ⊢
    generalize w1.heap.size = pb at HLx ⊢
    clear hg0 hg1 hb3 HW hb2 hb1 HC hbl
    clear w3 w2 w1
    go_loopw [11, 12] (fun ch i wr => ∃ k : Nat, k ≤ m ∧ i = .int .i64 k ∧ ch = .int .i64 (Pl.cnt (fun d => Pl.chk m 0 (s + d)) k : Nat) ∧ Lies wr gl gb pb n (.slice none 0 0) z ∧ Below w'.heap.size w' wr) (fun _ i _ => m - (intOf i).toNat)
    case atStart => exact ⟨0, Nat.zero_le _, rfl, rfl, HLx, HBx⟩
    case round =>
      obtain ⟨k, hk, rfl, rfl, HLr, HBr⟩ := hrel
      have hle := Pl.cnt_le (fun d => Pl.chk m 0 (s + d)) k
      have hsu : Hid (Pl.cnt (fun d => Pl.chk m 0 (s + d)) (k + 1) = Pl.cnt (fun d => Pl.chk m 0 (s + d)) k + if Pl.chk m 0 (s + k) then 1 else 0) := rfl
      have HCT : Hid (Pl.cnt (fun d => Pl.chk m 0 (s + d)) m = m / 2) := Pl.chk_turns m s hm0
      clear HLx HBx
      generalize hC : Pl.cnt (fun d => Pl.chk m 0 (s + d)) = C at hle hsu HCT ⊢
      clear hC
      by_cases hlt : k < m
      · go_wp2
        have i1 : (1 : Int) < (n : Int) := by omega
        have hsk : (s : Int) + (k : Int) < 18446744073709551616 := by omega
        have q1 := u64_fit (k : Int) (by omega) (by omega)
        have q2 := u64_fit ((s : Int) + (k : Int)) (by omega) hsk
        have ⟨g0, g1, g2, _, _, _⟩ := HLr
        have p0 := HLr.ps 1 (by omega)
        have HL' : Hid (Lies wr.drew gl gb pb n (.slice none 0 0) z) := HLr.on (Below.refl _ _).drew
        clear HLr
        go_region_held3 (fun W => W.cell? ⟨gl, 0, none⟩ = some (.pointer (some ⟨gb, 0, none⟩)) ∧ W.cell? ⟨gl, 1, none⟩ = some (.slice none 0 0) ∧ W.cell? ⟨gl, 2, none⟩ = some (.slice none 0 0) ∧ W.cell? ⟨pb, 1, none⟩ = some (.int .i64 (z 1)))
          (go_keep)
          (first | (go_at_call 13; refine (checks_nat gb pb n m 0 (s + k) 1 _ _ _ _ _ z wr.drew (by omega) (by omega) (by omega) hm1 hm2 rfl (by omega) HL'.out.h0 HL'.out.ps hV0 (HR.out trivial) rfl _ rfl).mono ?_; rintro e w5 ⟨rfl, hb5⟩; have k0 := cell_on hb5 HL'.out.g0; have k1 := cell_on hb5 HL'.out.g1; have k2 := cell_on hb5 HL'.out.g2; have k3 := cell_on hb5 (HL'.out.ps 1 (by omega))))
        clear k0 k1 k2 k3 g0 g1 g2 p0
        have HLw := HL'.out.on hb5
        have HBw := HBr.drew.trans (hb5.mono HBr.size)
        clear hb5 HL' HBr
        cases hw : Pl.chk m 0 (s + k)
        · have HWH : Hid (Pl.chk m 0 (s + k) = false) := hw
          go_wp2
          go_roundw
          case rel => exact ⟨k + 1, by omega, by go_num, by rw [hsu.out, HWH.out]; rfl, HLw, HBw⟩
          case measure => simp [intOf]; omega
        · have HWH : Hid (Pl.chk m 0 (s + k) = true) := hw
          go_wp2
          go_roundw
          case rel => exact ⟨k + 1, by omega, by go_num, by rw [hsu.out, HWH.out]; go_num, HLw, HBw⟩
          case measure => simp [intOf]; omega
      · obtain rfl : k = m := by omega
        go_wp2
        go_ret
        exact ⟨ret_bool (by simp only [HCT.out]; simp), HBr⟩

end Go.Proofs.Qxb6001730aMods
