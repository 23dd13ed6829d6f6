import Derived.Test.Qxb6000814aModsJ2
import Derived.Test.Qxb6000814aModsJ3
import Derived.OpenShut
namespace Go.Proofs.Qxb6000814aMods
open Go.RowKit

theorem own_below {W W' : World} {base n : Nat} {v : Value} {xs : List Value} (hb : Below W.heap.size W W') (h : W.ownsRow base 5 1 v n xs) : W'.ownsRow base 5 1 v n xs := by
  refine ⟨h.1, ?_⟩
  rcases h.2 with hn | ⟨g, cap, cur, hv, hbg, hg, rest⟩
  · exact .inl hn
  · exact .inr ⟨g, cap, cur, hv, hbg, (hb.block g (Array.getElem?_eq_some_iff.1 hg).1).trans hg, rest⟩

/-- The bytes written so far: the first is x. -/
structure RowOf (w wk : World) (x : Int) (g m cap : Nat) (xs : List Value) : Prop where
  own : wk.ownsRow w.heap.size 5 1 (.slice (some ⟨g, 0, none⟩) m cap) m (.int .u8 x :: xs)
  old : Below w.heap.size w wk

theorem RowOf.pos {w wk : World} {x : Int} {g m cap : Nat} {xs : List Value} (h : RowOf w wk x g m cap xs) : 0 < m := by
  have := h.own.1; simp at this; omega
theorem RowOf.first {w wk : World} {x : Int} {g m cap : Nat} {xs : List Value} (h : RowOf w wk x g m cap xs) : wk.cell? ⟨g, 0, none⟩ = some (.int .u8 x) := by
  have := h.own.cells (g := g) rfl 0 (.int .u8 x) rfl
  rw [add_off] at this; exact this
theorem RowOf.on {w wk wl : World} {x : Int} {g m cap : Nat} {xs : List Value} (h : RowOf w wk x g m cap xs) (hb : Below wk.heap.size wk wl) : RowOf w wl x g m cap xs :=
  ⟨own_below hb h.own, h.old.trans (hb.mono h.old.size)⟩
theorem RowOf.base {w wk : World} {x : Int} {g m cap : Nat} {xs : List Value} (h : RowOf w wk x g m cap xs) : w.heap.size ≤ wk.heap.size := h.old.size

theorem one_ok (x : Int) : ∀ u ∈ [Value.int .u8 x], u.oneCell' = true := by
  intro u hu; simp at hu; subst hu; rfl

/-- After an append onto the row. -/
theorem RowOf.more {w wk X wl : World} {x : Int} {g m cap l g' cap' : Nat} {xs news : List Value} (h : RowOf w wk x g m cap xs) (hX : Below wk.heap.size wk X)
    (hown : wl.ownsRow w.heap.size 5 1 (.slice (some ⟨g', 0, none⟩) (m + l) cap') (m + l) ((.int .u8 x :: xs) ++ news)) (hgrow : X.grownBy wl (Value.ownBlock (.slice (some ⟨g, 0, none⟩) m cap))) : RowOf w wl x g' (m + l) cap' (xs ++ news) where
  own := hown
  old := (h.old.trans (hX.mono h.old.size)).grown hgrow (Nat.le_trans h.old.size hX.size) (fun k hk => (h.own.lt k hk).1)

/-- The first append, onto nil. -/
theorem RowOf.start {w X wl : World} {x : Int} {l g' cap' : Nat} {news : List Value} (hX : Below w.heap.size w X)
    (hown : wl.ownsRow w.heap.size 5 1 (.slice (some ⟨g', 0, none⟩) (0 + l) cap') (0 + l) ([] ++ .int .u8 x :: news)) (hgrow : X.grownBy wl (Value.ownBlock (.slice none 0 0))) : RowOf w wl x g' l cap' news where
  own := by rw [Nat.zero_add] at hown; exact hown
  old := hX.grown hgrow hX.size (fun k hk => by cases hk)

theorem zzT {g n c : Nat} {x : Int} {w : World} (s : ByteArray) (hn : 0 < n) (hc : w.cell? ⟨g, 0, none⟩ = some (.int .u8 x)) (hs : nameOf x = s) :
    Calls Trym.prog 7 #[.slice (some ⟨g, 0, none⟩) n c] w fun e w' => e = .returned (.string s) ∧ w' = w := hs ▸ zzType_any g n c x w hn hc

theorem walk_long (a0 a1 : Int) (a2 : ByteArray) (hm : a2.size ≤ 9223372036854775807) (h : 1048576 < a2.size) (w : World) :
    Calls Trym.prog 3 #[.int .u8 a0, .int .i64 a1, .string a2] w fun e w' => e = .returned (.bool true) ∧ Below w.heap.size w w' := by
  go_enter Trym.func3, Trym.ntmps3
  go_wp2_with fail
  refine (bytes4_no a0 a1 a2 w h hm).mono ?_
  rintro e w1 ⟨rfl, hw⟩
  obtain rfl := hw.symm
  go_wp2
  go_ret
  exact ⟨rfl, Below.refl _ _⟩

theorem walk_0 (a0 a1 : Int) (a2 : ByteArray) (h0 : 0 ≤ a0) (h255 : a0 ≤ 255) (h : a2.size ≤ 1048576) (hr : a0 % 6 = 0) (w : World) :
    Calls Trym.prog 3 #[.int .u8 a0, .int .i64 a1, .string a2] w fun e w' => e = .returned (.bool true) ∧ Below w.heap.size w w' := by
  go_enter Trym.func3, Trym.ntmps3
  go_wp2_with fail
  refine (bytes4_yes a0 a1 a2 w h).mono ?_
  rintro e w1 ⟨rfl, hw⟩
  obtain rfl := hw.symm
  go_wp2_with (first | (at_builtin; refine app_string _ rfl _ _ rfl w.heap.size _ 0 [] rfl (World.ownsRow_nil _ _ _ _) ⟨#[110, 117, 108, 108]⟩ rfl (by decide) (by decide) (Nat.le_refl _) ?_; intro g cap w1 hown1 hgrow1; have HQ : Hid (RowOf w w1 110 g 4 cap _) := RowOf.start (Below.refl _ _) hown1 hgrow1; clear hown1 hgrow1))
  refine (zzT ⟨#[110, 117, 108, 108]⟩ HQ.out.pos HQ.out.first (by decide)).mono ?_
  rintro e w9 ⟨rfl, hw9⟩
  obtain rfl := hw9.symm
  go_wp2
  go_ret
  exact ⟨rfl, HQ.out.old⟩

theorem walk_1 (a0 a1 : Int) (a2 : ByteArray) (h0 : 0 ≤ a0) (h255 : a0 ≤ 255) (h : a2.size ≤ 1048576) (hr : a0 % 6 = 1) (w : World) :
    Calls Trym.prog 3 #[.int .u8 a0, .int .i64 a1, .string a2] w fun e w' => e = .returned (.bool true) ∧ Below w.heap.size w w' := by
  by_cases hq : bits .and .i64 a1 1 = 0
  · have e1 : (bits .and .i64 a1 1 == 0) = true := by simp [hq]
    clear hq
    go_enter Trym.func3, Trym.ntmps3
    go_wp2_with fail
    refine (bytes4_yes a0 a1 a2 w h).mono ?_
    rintro e w1 ⟨rfl, hw⟩
    obtain rfl := hw.symm
    go_wp2_with (first | (at_builtin; refine app_string _ rfl _ _ rfl w.heap.size _ 0 [] rfl (World.ownsRow_nil _ _ _ _) ⟨#[102, 97, 108, 115, 101]⟩ rfl (by decide) (by decide) (Nat.le_refl _) ?_; intro g cap w1 hown1 hgrow1; have HQ : Hid (RowOf w w1 102 g 5 cap _) := RowOf.start (Below.refl _ _) hown1 hgrow1; clear hown1 hgrow1))
    refine (zzT ⟨#[97, 32, 98, 111, 111, 108, 101, 97, 110]⟩ HQ.out.pos HQ.out.first (by decide)).mono ?_
    rintro e w9 ⟨rfl, hw9⟩
    obtain rfl := hw9.symm
    go_wp2
    go_ret
    exact ⟨rfl, HQ.out.old⟩
  · have e1 : (bits .and .i64 a1 1 == 0) = false := by simp [hq]
    clear hq
    go_enter Trym.func3, Trym.ntmps3
    go_wp2_with fail
    refine (bytes4_yes a0 a1 a2 w h).mono ?_
    rintro e w1 ⟨rfl, hw⟩
    obtain rfl := hw.symm
    go_wp2_with (first | (at_builtin; refine app_string _ rfl _ _ rfl w.heap.size _ 0 [] rfl (World.ownsRow_nil _ _ _ _) ⟨#[116, 114, 117, 101]⟩ rfl (by decide) (by decide) (Nat.le_refl _) ?_; intro g cap w1 hown1 hgrow1; have HQ : Hid (RowOf w w1 116 g 4 cap _) := RowOf.start (Below.refl _ _) hown1 hgrow1; clear hown1 hgrow1))
    refine (zzT ⟨#[97, 32, 98, 111, 111, 108, 101, 97, 110]⟩ HQ.out.pos HQ.out.first (by decide)).mono ?_
    rintro e w9 ⟨rfl, hw9⟩
    obtain rfl := hw9.symm
    go_wp2
    go_ret
    exact ⟨rfl, HQ.out.old⟩

theorem name_number {x : Int} (h : x = 45 ∨ 48 ≤ x ∧ x ≤ 57) : nameOf x = ⟨#[97, 32, 110, 117, 109, 98, 101, 114]⟩ := by
  unfold nameOf
  rw [if_neg (by omega), if_neg (by omega), if_neg (by omega), if_neg (by omega), if_neg (by omega)]

theorem walk_2 (a0 a1 : Int) (a2 : ByteArray) (h0 : 0 ≤ a0) (h255 : a0 ≤ 255) (h1 : -9223372036854775808 ≤ a1) (h2 : a1 ≤ 9223372036854775807) (h : a2.size ≤ 1048576) (hr : a0 % 6 = 2) (w : World) :
    Calls Trym.prog 3 #[.int .u8 a0, .int .i64 a1, .string a2] w fun e w' => e = .returned (.bool true) ∧ Below w.heap.size w w' := by
  go_enter Trym.func3, Trym.ntmps3
  go_wp2_with fail
  refine (bytes4_yes a0 a1 a2 w h).mono ?_
  rintro e w1 ⟨rfl, hw⟩
  obtain rfl := hw.symm
  go_wp2_with fail
  refine (text_any a1 w h1 h2).mono ?_
  rintro e w1 ⟨v5, rfl, g5, cap5, len5, ys5, x5, rfl, hl5, hl5b, hy5, hc5, ho5, hx5, hd5, hb5⟩
  obtain ⟨zs, rfl⟩ : ∃ zs, ys5 = .int .u8 x5 :: zs := by
    cases ys5 with
    | nil => cases hx5
    | cons u zs => simp at hx5; exact ⟨zs, by rw [hx5]⟩
  have HC : Hid (∀ j u, (Value.int .u8 x5 :: zs)[j]? = some u → w1.cell? ((⟨g5, 0, none⟩ : Addr).add j) = some u) := hc5
  have HK : Hid (∀ u ∈ Value.int .u8 x5 :: zs, u.oneCell' = true) := ho5
  have HY : Hid ((Value.int .u8 x5 :: zs).length = len5) := hy5
  have HD : Hid (x5 = 45 ∨ 48 ≤ x5 ∧ x5 ≤ 57) := hd5
  clear hc5 ho5 hy5 hd5 hx5
  go_wp2_with (first | (at_builtin; refine app_bytes _ rfl _ _ rfl w.heap.size _ 0 [] rfl (World.ownsRow_nil _ _ _ _) ⟨g5, 0, none⟩ len5 cap5 (Value.int .u8 x5 :: zs) rfl HY.out HC.out HK.out hl5 (by omega) hb5.size ?_; intro g cap w2 hown2 hgrow2; have HQ : Hid (RowOf w w2 x5 g len5 cap _) := RowOf.start hb5 hown2 hgrow2; clear hown2 hgrow2))
  refine (zzT ⟨#[97, 32, 110, 117, 109, 98, 101, 114]⟩ HQ.out.pos HQ.out.first (name_number HD.out)).mono ?_
  rintro e w9 ⟨rfl, hw9⟩
  obtain rfl := hw9.symm
  go_wp2
  go_ret
  exact ⟨rfl, HQ.out.old⟩

theorem walk_3 (a0 a1 : Int) (a2 : ByteArray) (h0 : 0 ≤ a0) (h255 : a0 ≤ 255) (h : a2.size ≤ 1048576) (hr : a0 % 6 = 3) (w : World) :
    Calls Trym.prog 3 #[.int .u8 a0, .int .i64 a1, .string a2] w fun e w' => e = .returned (.bool true) ∧ Below w.heap.size w w' := by
  go_enter Trym.func3, Trym.ntmps3
  go_wp2_with fail
  refine (bytes4_yes a0 a1 a2 w h).mono ?_
  rintro e w1 ⟨rfl, hw⟩
  obtain rfl := hw.symm
  go_wp2_with fail
  refine (quoted_any w.heap.size 0 (.slice none 0 0) [] a2 w h (by decide) (World.ownsRow_nil _ _ _ _) (Nat.le_refl _)).mono ?_
  rintro e w1 ⟨v6, rfl, g6, cap6, m6, ys6, rfl, hown6, hm6, hl6, hb6⟩
  have HQ : Hid (RowOf w w1 34 g6 m6 cap6 ys6) := ⟨hown6, hb6⟩
  clear hown6 hb6
  go_wp2_with fail
  refine (zzT ⟨#[97, 32, 115, 116, 114, 105, 110, 103]⟩ HQ.out.pos HQ.out.first (by decide)).mono ?_
  rintro e w9 ⟨rfl, hw9⟩
  obtain rfl := hw9.symm
  go_wp2
  go_ret
  exact ⟨rfl, HQ.out.old⟩

set_option maxHeartbeats 800000 in
theorem walk_4 (a0 a1 : Int) (a2 : ByteArray) (h0 : 0 ≤ a0) (h255 : a0 ≤ 255) (h1 : -9223372036854775808 ≤ a1) (h2 : a1 ≤ 9223372036854775807) (h : a2.size ≤ 1048576) (hr : a0 % 6 = 4) (w : World) :
    Calls Trym.prog 3 #[.int .u8 a0, .int .i64 a1, .string a2] w fun e w' => e = .returned (.bool true) ∧ Below w.heap.size w w' := by
  go_enter Trym.func3, Trym.ntmps3
  go_wp2_with fail
  refine (bytes4_yes a0 a1 a2 w h).mono ?_
  rintro e w1 ⟨rfl, hw⟩
  obtain rfl := hw.symm
  go_wp2_with (first | (at_builtin; refine app_bytes _ rfl _ _ rfl w.heap.size _ 0 [] rfl (World.ownsRow_nil _ _ _ _) ⟨w.heap.size, 0, none⟩ 1 1 [.int .u8 91] rfl rfl (new_news w #[.int .u8 91] 5) (one_ok _) (by decide) (by decide) ((Below.refl w.heap.size w).alloc (Nat.le_refl _) _).size ?_; intro g1 cap1 w1 hown hgrow; have H1 : Hid (RowOf w w1 91 g1 1 cap1 []) := RowOf.start ((Below.refl w.heap.size w).alloc (Nat.le_refl _) _) hown hgrow; clear hown hgrow))
  refine (text_any a1 w1 h1 h2).mono ?_
  rintro e w2 ⟨v5, rfl, g5, cap5, len5, ys5, x5, rfl, hl5, hl5b, hy5, hc5, ho5, hx5, hd5, hb5⟩
  have H2 : Hid (RowOf w w2 91 g1 1 cap1 []) := H1.out.on hb5
  clear H1
  have HC : Hid (∀ j u, ys5[j]? = some u → w2.cell? ((⟨g5, 0, none⟩ : Addr).add j) = some u) := hc5
  have HK : Hid (∀ u ∈ ys5, u.oneCell' = true) := ho5
  have HY : Hid (ys5.length = len5) := hy5
  clear hc5 ho5 hy5 hd5 hx5
  go_wp2_with (first | (at_builtin; refine app_bytes _ rfl _ _ rfl w.heap.size _ 1 _ rfl H2.out.own ⟨g5, 0, none⟩ len5 cap5 ys5 rfl HY.out HC.out HK.out hl5 (by omega) H2.out.base ?_; intro g3 capg3 w3 hown hgrow; have H3 : Hid (RowOf w w3 91 g3 (1 + len5) capg3 _) := H2.out.more (Below.refl _ _) hown hgrow; clear hown hgrow) | (at_builtin; refine app_bytes _ rfl _ _ rfl w.heap.size _ (1 + len5) _ rfl (own_below ((Below.refl _ w3).alloc (Nat.le_refl _) _) H3.out.own) ⟨w3.heap.size, 0, none⟩ 1 1 [.int .u8 44] rfl rfl (new_news w3 #[.int .u8 44] 5) (one_ok _) (by decide) (by omega) (Nat.le_trans H3.out.base ((Below.refl _ w3).alloc (Nat.le_refl _) _).size) ?_; intro g4 capg4 w4 hown hgrow; have H4 : Hid (RowOf w w4 91 g4 ((1 + len5) + 1) capg4 _) := H3.out.more ((Below.refl _ w3).alloc (Nat.le_refl _) _) hown hgrow; clear hown hgrow))
  refine (quoted_any w.heap.size _ _ _ a2 w4 h (by omega) H4.out.own H4.out.base).mono ?_
  rintro e w5 ⟨v6, rfl, g6, cap6, m6, ys6, rfl, hown6, hm6, hl6, hb6⟩
  have H5 : Hid (RowOf w w5 91 g6 m6 cap6 _) := ⟨hown6, H4.out.old.trans hb6⟩
  clear hown6 hb6
  go_wp2_with (first | (at_builtin; refine app_bytes _ rfl _ _ rfl w.heap.size _ m6 _ rfl (own_below ((Below.refl _ w5).alloc (Nat.le_refl _) _) H5.out.own) ⟨w5.heap.size, 0, none⟩ 1 1 [.int .u8 93] rfl rfl (new_news w5 #[.int .u8 93] 5) (one_ok _) (by decide) (by omega) (Nat.le_trans H5.out.base ((Below.refl _ w5).alloc (Nat.le_refl _) _).size) ?_; intro g7 capg7 w6 hown hgrow; have H6 : Hid (RowOf w w6 91 g7 (m6 + 1) capg7 _) := H5.out.more ((Below.refl _ w5).alloc (Nat.le_refl _) _) hown hgrow; clear hown hgrow))
  refine (zzT ⟨#[97, 110, 32, 97, 114, 114, 97, 121]⟩ H6.out.pos H6.out.first (by decide)).mono ?_
  rintro e w9 ⟨rfl, hw9⟩
  obtain rfl := hw9.symm
  go_wp2
  go_ret
  exact ⟨rfl, H6.out.old⟩

set_option maxHeartbeats 800000 in
theorem walk_5 (a0 a1 : Int) (a2 : ByteArray) (h0 : 0 ≤ a0) (h255 : a0 ≤ 255) (h1 : -9223372036854775808 ≤ a1) (h2 : a1 ≤ 9223372036854775807) (h : a2.size ≤ 1048576) (hr : a0 % 6 = 5) (w : World) :
    Calls Trym.prog 3 #[.int .u8 a0, .int .i64 a1, .string a2] w fun e w' => e = .returned (.bool true) ∧ Below w.heap.size w w' := by
  go_enter Trym.func3, Trym.ntmps3
  go_wp2_with fail
  refine (bytes4_yes a0 a1 a2 w h).mono ?_
  rintro e w1 ⟨rfl, hw⟩
  obtain rfl := hw.symm
  go_wp2_with (first | (at_builtin; refine app_bytes _ rfl _ _ rfl w.heap.size _ 0 [] rfl (World.ownsRow_nil _ _ _ _) ⟨w.heap.size, 0, none⟩ 1 1 [.int .u8 123] rfl rfl (new_news w #[.int .u8 123] 5) (one_ok _) (by decide) (by decide) ((Below.refl w.heap.size w).alloc (Nat.le_refl _) _).size ?_; intro g1 cap1 w1 hown hgrow; have H1 : Hid (RowOf w w1 123 g1 1 cap1 []) := RowOf.start ((Below.refl w.heap.size w).alloc (Nat.le_refl _) _) hown hgrow; clear hown hgrow))
  refine (quoted_any w.heap.size _ _ _ a2 w1 h (by omega) H1.out.own H1.out.base).mono ?_
  rintro e w2 ⟨v6, rfl, g6, cap6, m6, ys6, rfl, hown6, hm6, hl6, hb6⟩
  have H2 : Hid (RowOf w w2 123 g6 m6 cap6 _) := ⟨hown6, H1.out.old.trans hb6⟩
  clear hown6 hb6
  go_wp2_with (first | (at_builtin; refine app_bytes _ rfl _ _ rfl w.heap.size _ m6 _ rfl (own_below ((Below.refl _ w2).alloc (Nat.le_refl _) _) H2.out.own) ⟨w2.heap.size, 0, none⟩ 1 1 [.int .u8 58] rfl rfl (new_news w2 #[.int .u8 58] 5) (one_ok _) (by decide) (by omega) (Nat.le_trans H2.out.base ((Below.refl _ w2).alloc (Nat.le_refl _) _).size) ?_; intro g3 capg3 w3 hown hgrow; have H3 : Hid (RowOf w w3 123 g3 (m6 + 1) capg3 _) := H2.out.more ((Below.refl _ w2).alloc (Nat.le_refl _) _) hown hgrow; clear hown hgrow))
  refine (text_any a1 w3 h1 h2).mono ?_
  rintro e w4 ⟨v5, rfl, g5, cap5, len5, ys5, x5, rfl, hl5, hl5b, hy5, hc5, ho5, hx5, hd5, hb5⟩
  have H4 : Hid (RowOf w w4 123 g3 (m6 + 1) capg3 _) := H3.out.on hb5
  have HC : Hid (∀ j u, ys5[j]? = some u → w4.cell? ((⟨g5, 0, none⟩ : Addr).add j) = some u) := hc5
  have HK : Hid (∀ u ∈ ys5, u.oneCell' = true) := ho5
  have HY : Hid (ys5.length = len5) := hy5
  clear hc5 ho5 hy5 hd5 hx5
  go_wp2_with (first | (at_builtin; refine app_bytes _ rfl _ _ rfl w.heap.size _ (m6 + 1) _ rfl H4.out.own ⟨g5, 0, none⟩ len5 cap5 ys5 rfl HY.out HC.out HK.out hl5 (by omega) H4.out.base ?_; intro g5b capg5b w5 hown hgrow; have H5 : Hid (RowOf w w5 123 g5b ((m6 + 1) + len5) capg5b _) := H4.out.more (Below.refl _ _) hown hgrow; clear hown hgrow) | (at_builtin; refine app_bytes _ rfl _ _ rfl w.heap.size _ (m6 + 1 + len5) _ rfl (own_below ((Below.refl _ w5).alloc (Nat.le_refl _) _) H5.out.own) ⟨w5.heap.size, 0, none⟩ 1 1 [.int .u8 125] rfl rfl (new_news w5 #[.int .u8 125] 5) (one_ok _) (by decide) (by omega) (Nat.le_trans H5.out.base ((Below.refl _ w5).alloc (Nat.le_refl _) _).size) ?_; intro g7 capg7 w6 hown hgrow; have H6 : Hid (RowOf w w6 123 g7 ((m6 + 1 + len5) + 1) capg7 _) := H5.out.more ((Below.refl _ w5).alloc (Nat.le_refl _) _) hown hgrow; clear hown hgrow))
  refine (zzT ⟨#[97, 110, 32, 111, 98, 106, 101, 99, 116]⟩ H6.out.pos H6.out.first (by decide)).mono ?_
  rintro e w9 ⟨rfl, hw9⟩
  obtain rfl := hw9.symm
  go_wp2
  go_ret
  exact ⟨rfl, H6.out.old⟩

theorem json_walk (a0 a1 : Int) (a2 : ByteArray) (w0 : (Lit.int .u8 a0).wf = true) (w1 : (Lit.int .i64 a1).wf = true) (w2 : a2.size ≤ maxLen) (w : World) :
    Calls Trym.prog 3 #[.int .u8 a0, .int .i64 a1, .string a2] w fun e w' => e = .returned (.bool true) ∧ Below w.heap.size w w' := by
  obtain ⟨h0, h255⟩ := bounds_u8 w0
  obtain ⟨h1, h2⟩ := bounds_i64 w1
  unfold maxLen at w2
  rcases Nat.lt_or_ge 1048576 a2.size with h | h
  · exact walk_long a0 a1 a2 (by omega) h w
  have hr : a0 % 6 = 0 ∨ a0 % 6 = 1 ∨ a0 % 6 = 2 ∨ a0 % 6 = 3 ∨ a0 % 6 = 4 ∨ a0 % 6 = 5 := by omega
  rcases hr with hr | hr | hr | hr | hr | hr
  · exact walk_0 a0 a1 a2 h0 h255 h hr w
  · exact walk_1 a0 a1 a2 h0 h255 h hr w
  · exact walk_2 a0 a1 a2 h0 h255 h1 h2 h hr w
  · exact walk_3 a0 a1 a2 h0 h255 h hr w
  · exact walk_4 a0 a1 a2 h0 h255 h1 h2 h hr w
  · exact walk_5 a0 a1 a2 h0 h255 h1 h2 h hr w

end Go.Proofs.Qxb6000814aMods
