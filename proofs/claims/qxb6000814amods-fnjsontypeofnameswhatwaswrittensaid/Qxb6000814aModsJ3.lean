import Derived.Test.Qxb6000814aModsJ1
namespace Go.Proofs.Qxb6000814aMods
open Go.RowKit

theorem mk_bytes (w : World) {ops : Array Oper} {rest : List Oper} {o : Oper} {a : Act} {Q : Exit → Act → World → Prop} (hgd : o.guard = none) (l c : Operand) (ho : o.op = Op.makeSlice 23 l c)
    (base : Nat) (C : Int) (m : Nat) (hl : a.eval l = .int .i64 0) (hc : a.eval c = .int .i64 C) (hC : C = (m : Int)) (hm : m ≤ 1000) (hbase : base ≤ w.heap.size)
    (h : ∀ w', w'.ownsRow base 5 1 (.slice (some ⟨w.heap.size, 0, none⟩) 0 m) 0 [] → w.grownBy w' none → wpList Trym.prog ops Q rest (a.put o.dst (.slice (some ⟨w.heap.size, 0, none⟩) 0 m)) w') :
    wpList Trym.prog ops Q (o :: rest) a w := by
  obtain ⟨i0, hi0, hzz⟩ := Option.map_eq_some_iff.1 Trym.info5
  simp only [Prod.mk.injEq] at hzz
  obtain ⟨hz0, hz1, hz2⟩ := hzz
  exact wpList_make_own w hgd l c 23 ho base 5 i0 (.int .u8 0) 1 Trym.underlying23 hi0 hz0 hz1 .i64 .i64 C m hl hc hC (by rw [hz2]; omega) (by unfold maxLen; omega) hbase h

theorem size_set (W : World) (a : Addr) (v : Value) : (W.setCell a v).heap.size = W.heap.size := by simp [World.setCell]

/-- The array of digits, filled from i on. -/
structure Digits (w wr : World) (i : Nat) (d : Nat → Int) : Prop where
  row : wr.rowIs w.heap.size 27 21 (fun j => .int .u8 (d j))
  dig : ∀ j, i ≤ j → j < 21 → d j = 45 ∧ j = i ∨ 48 ≤ d j ∧ d j ≤ 57
  old : Below w.heap.size w wr

theorem digits_start (w : World) : Digits w (w.alloc (.cells #[.int .u8 0, .int .u8 0, .int .u8 0, .int .u8 0, .int .u8 0, .int .u8 0, .int .u8 0, .int .u8 0, .int .u8 0, .int .u8 0, .int .u8 0, .int .u8 0, .int .u8 0, .int .u8 0, .int .u8 0, .int .u8 0, .int .u8 0, .int .u8 0, .int .u8 0, .int .u8 0, .int .u8 0] 27)) 21 (fun _ => 0) where
  row := World.rowIs_alloc w _ 27 _ (fun i hi => by
    have hi : i < 21 := hi
    have e : (#[.int .u8 0, .int .u8 0, .int .u8 0, .int .u8 0, .int .u8 0, .int .u8 0, .int .u8 0, .int .u8 0, .int .u8 0, .int .u8 0, .int .u8 0, .int .u8 0, .int .u8 0, .int .u8 0, .int .u8 0, .int .u8 0, .int .u8 0, .int .u8 0, .int .u8 0, .int .u8 0, .int .u8 0] : Array Value) = Array.replicate 21 (.int .u8 0) := rfl
    rw [e, Array.getElem?_replicate, if_pos hi])
  dig := fun j h1 h2 => by omega
  old := (Below.refl _ _).alloc (Nat.le_refl _) _

theorem digits_step {w wr : World} {k : Nat} {d : Nat → Int} (h : Digits w wr (k + 1) d) (hno : ∀ j, k + 1 ≤ j → j < 21 → 48 ≤ d j ∧ d j ≤ 57) (x : Int) (hx : x = 45 ∨ 48 ≤ x ∧ x ≤ 57) :
    Digits w (wr.setCell ⟨w.heap.size, k, none⟩ (.int .u8 x)) k (fun j => if j = k then x else d j) where
  row := (h.row.set k _).congr (fun j _ => by by_cases e : j = k <;> simp [e])
  dig := fun j h1 h2 => by
    by_cases e : j = k
    · subst e
      rcases hx with hx | hx
      · exact Or.inl ⟨by rw [if_pos rfl]; exact hx, rfl⟩
      · exact Or.inr (by rw [if_pos rfl]; exact hx)
    · simp only [if_neg e]; exact Or.inr (hno j (by omega) h2)
  old := h.old.setCell (Nat.le_refl _) _

/-- What zzInt64Text hands back: at least one byte, the first a digit or a minus. -/
def TextIs (w w' : World) (v : Value) : Prop :=
  ∃ (g cap len : Nat) (xs : List Value) (x0 : Int), v = .slice (some ⟨g, 0, none⟩) len cap ∧ 0 < len ∧ len ≤ 21 ∧ xs.length = len ∧ (∀ j u, xs[j]? = some u → w'.cell? ((⟨g, 0, none⟩ : Addr).add j) = some u) ∧ (∀ u ∈ xs, u.oneCell' = true) ∧ xs[0]? = some (.int .u8 x0) ∧ (x0 = 45 ∨ 48 ≤ x0 ∧ x0 ≤ 57) ∧ Below w.heap.size w w'

theorem add_off (b i j : Nat) : (⟨b, i, none⟩ : Addr).add j = ⟨b, i + j, none⟩ := by unfold Addr.add; split <;> simp_all

/-- The bytes from i on. -/
def tail (d : Nat → Int) (i : Nat) : List Value := (List.range (21 - i)).map fun j => .int .u8 (d (i + j))

theorem tail_length (d : Nat → Int) (i : Nat) : (tail d i).length = 21 - i := by simp [tail]
theorem tail_one (d : Nat → Int) (i : Nat) : ∀ u ∈ tail d i, u.oneCell' = true := by
  intro u hu
  obtain ⟨j, _, rfl⟩ := List.mem_map.1 hu
  rfl
theorem tail_cells {w : World} {b i : Nat} {t : TypeId} {d : Nat → Int} (h : w.rowIs b t 21 (fun j => .int .u8 (d j))) : ∀ j u, (tail d i)[j]? = some u → w.cell? ((⟨b, i, none⟩ : Addr).add j) = some u := by
  intro j u hu
  obtain ⟨hj, e⟩ := List.getElem?_eq_some_iff.1 hu
  rw [tail_length] at hj
  rw [add_off, h.cell (by omega)]
  simp only [tail, List.getElem_map, List.getElem_range] at e
  rw [← e]

theorem text_of {w w1 : World} {g cap m i : Nat} {d : Nat → Int} {base : Nat} (hi : i < 21) (hm : m = 21 - i) (hd : d i = 45 ∨ 48 ≤ d i ∧ d i ≤ 57) (hown : w1.ownsRow base 5 1 (.slice (some ⟨g, 0, none⟩) (0 + m) cap) (0 + m) ([] ++ tail d i)) (hb : Below w.heap.size w w1) :
    TextIs w w1 (.slice (some ⟨g, 0, none⟩) m cap) := by
  rw [show (Value.slice (some ⟨g, 0, none⟩) m cap) = .slice (some ⟨g, 0, none⟩) (0 + m) cap by rw [Nat.zero_add]]
  refine ⟨g, cap, 0 + m, [] ++ tail d i, d i, rfl, by omega, by omega, by simp [tail_length, hm], hown.cells (g := g) rfl, by simpa using tail_one d i, ?_, hd, hb⟩
  simp [tail, List.getElem?_range (show 0 < 21 - i by omega)]

theorem Trym.size5 (w : World) : (sizeOf 5).run Trym.prog w = .ok 1 w := by kernel_rfl

theorem slice27 (b k : Nat) (w : World) (h : k < 21) : (Instr.sliceAt 27 (.pointer (some ⟨b, 0, none⟩)) (some (.int .i64 (k : Int))) none none).run Trym.prog w = .ok (.slice (some ⟨b, k, none⟩) (21 - k) (21 - k)) w := by
  have hb : (Instr.sliceBounds false 21 21 (some (.int .i64 (k : Int))) none none).run Trym.prog w = .ok (k, 21, 21) w := by
    simp [Instr.sliceBounds, run_sliceBound, (show (k : Int) ≤ 21 by omega)]
  simp only [Instr.sliceAt, Sem.run_bind, run_underlying Trym.underlying27, Result.andThen_ok]
  simp only [Instr.sureAddr, Sem.run_pure, Result.andThen_ok, hb, Trym.size5]
  rw [if_neg (by omega), Nat.mul_one, add_off, Nat.zero_add]

theorem ten_step {k U V : Nat} (hk : 1 ≤ k) (hU : U < 10 ^ k) (hV : V = U / 10) (hz : ¬ U / 10 = 0) : ∃ p, k = p + 1 ∧ Hid (1 ≤ p ∧ V < 10 ^ p) := by
  obtain ⟨p, rfl⟩ : ∃ p, k = p + 1 := ⟨k - 1, by omega⟩
  rw [Nat.pow_succ] at hU
  have h1 : U / 10 < 10 ^ p := Nat.div_lt_of_lt_mul (by rw [Nat.mul_comm]; exact hU)
  refine ⟨p, rfl, ?_, by rw [hV]; exact h1⟩
  rcases Nat.eq_zero_or_pos p with h | h
  · subst h; simp at h1; omega
  · exact h

theorem neg_wrap (n : Int) (h0 : -9223372036854775808 ≤ n) (h1 : n < 0) : ∃ N : Nat, IntKind.u64.wrap (-IntKind.u64.wrap n) = (N : Int) ∧ N < 18446744073709551616 ∧ Hid (N < 10 ^ 20) := by
  refine ⟨(IntKind.u64.wrap (-IntKind.u64.wrap n)).toNat, ?_, ?_, ?_⟩
  · rw [IntKind.wrap_u64, IntKind.wrap_u64]; omega
  · rw [IntKind.wrap_u64, IntKind.wrap_u64]; omega
  · show _ < 10 ^ 20
    rw [IntKind.wrap_u64, IntKind.wrap_u64]; omega

set_option maxHeartbeats 1600000 in
theorem text_pos (n : Int) (w : World) (h0 : 0 ≤ n) (h1 : n ≤ 9223372036854775807) :
    Calls Trym.prog 5 #[.int .i64 n] w fun e w' => ∃ v, e = .returned v ∧ TextIs w w' v := by
  obtain ⟨N, rfl⟩ := Int.eq_ofNat_of_zero_le h0
  have hNb : N < 18446744073709551616 := by omega
  have hpow : Hid (N < 10 ^ 20) := by show N < 10 ^ 20; omega
  go_enter Trym.func5, Trym.ntmps5
  go_wp2
  go_loopw [4, 5] (fun i u wr => ∃ k U : Nat, ∃ d, 1 ≤ k ∧ k ≤ 20 ∧ i = .int .i64 ((k : Int) + 1) ∧ u = .int .u64 (U : Int) ∧ U < 18446744073709551616 ∧ Hid (U < 10 ^ k) ∧ Digits w wr (k + 1) d ∧ Hid (∀ j, k + 1 ≤ j → j < 21 → 48 ≤ d j ∧ d j ≤ 57)) (fun i _ _ => (intOf i).toNat)
  case atStart => exact ⟨20, N, _, by omega, by omega, rfl, rfl, hNb, hpow, digits_start w, fun j h1 h2 => by omega⟩
  case round =>
    obtain ⟨k, U, d, hk1, hk2, rfl, rfl, hUb, hU, hD, hno⟩ := hrel
    have HD : Hid (Digits w wr (k + 1) d) := hD
    have c1 := hD.row.cell (i := k) (by omega)
    have c2 := hD.row.frozen k
    clear hD
    have HD1 : Hid (Digits w (wr.setCell ⟨w.heap.size, k, none⟩ (.int .u8 (48 + (U : Int) % 10))) k (fun j => if j = k then 48 + (U : Int) % 10 else d j)) := digits_step HD.out hno.out _ (by omega)
    have hno1 : Hid (∀ j, k ≤ j → j < 21 → 48 ≤ (if j = k then 48 + (U : Int) % 10 else d j) ∧ (if j = k then 48 + (U : Int) % 10 else d j) ≤ 57) := by
      intro j h1 h2
      by_cases e : j = k
      · rw [if_pos e]; omega
      · rw [if_neg e]; exact hno.out j (by omega) h2
    by_cases hz : U / 10 = 0
    · have e1 : ((U : Int) / 10 == 0) = true := by simp; omega
      clear hz
      have hsl : ∀ W : World, (Instr.sliceAt 27 (.pointer (some ⟨w.heap.size, 0, none⟩)) (some (.int .i64 ((k : Nat) : Int))) none none).run Trym.prog W = .ok (.slice (some ⟨w.heap.size, k, none⟩) (21 - k) (21 - k)) W := fun W => slice27 w.heap.size k W (by omega)
      go_wp2_with (first
        | (at_make; refine mk_bytes _ rfl _ _ rfl w.heap.size _ (21 - k) rfl rfl (by omega) (by omega) ?_ ?_; exact HD1.out.old.size; intro w1 hown1 hgrow1; simp only [size_set] at hown1; have HO : Hid (w1.ownsRow w.heap.size 5 1 (.slice (some ⟨wr.heap.size, 0, none⟩) 0 (21 - k)) 0 []) := hown1; clear hown1; have HR : Hid (w1.rowIs w.heap.size 27 21 (fun j => .int .u8 ((fun j => if j = k then 48 + (U : Int) % 10 else d j) j))) := HD1.out.row.of_block (hgrow1.block _ HD1.out.row.lt (by simp)); have HB1 : Below w.heap.size w w1 := HD1.out.old.grown hgrow1 HD1.out.old.size (by simp); clear hgrow1)
        | (at_builtin; refine app_bytes _ rfl _ _ rfl w.heap.size _ 0 [] rfl HO.out ⟨w.heap.size, k, none⟩ (21 - k) (21 - k) (tail (fun j => if j = k then 48 + (U : Int) % 10 else d j) k) rfl (tail_length _ _) (tail_cells HR.out) (tail_one _ _) (by omega) (by omega) HB1.size ?_; intro g cap w2 hown2 hgrow2))
      go_ret
      exact ⟨_, rfl, text_of (i := k) (by omega) rfl (by simp only [↓reduceIte]; omega) hown2 (HB1.grown hgrow2 HB1.size (fun j hj => (HO.out.lt j hj).1))⟩
    · obtain ⟨V, hV, hV2⟩ : ∃ V : Nat, (U : Int) / 10 = (V : Int) ∧ Hid (V = U / 10) := ⟨U / 10, by omega, rfl⟩
      have hVb : V < 18446744073709551616 := by have := hV2.out; omega
      have e1 : ((V : Int) == 0) = false := by have := hV2.out; simp; omega
      obtain ⟨p, hp1, hp2⟩ : ∃ p, k = p + 1 ∧ Hid (1 ≤ p ∧ V < 10 ^ p) := ten_step hk1 hU.out hV2.out hz
      subst hp1
      have hp3 := hp2.out.1
      clear hz
      go_wp2
      go_roundw
      case rel => exact ⟨p, V, _, hp3, by omega, by go_num, rfl, hVb, hp2.out.2, HD1.out, fun j h1 h2 => hno1.out j h1 h2⟩
      case measure => simp [intOf]; omega

set_option maxHeartbeats 1600000 in
theorem text_neg (n : Int) (w : World) (h0 : -9223372036854775808 ≤ n) (h1 : n < 0) :
    Calls Trym.prog 5 #[.int .i64 n] w fun e w' => ∃ v, e = .returned v ∧ TextIs w w' v := by
  obtain ⟨N, hN, hNb, hpow⟩ : ∃ N : Nat, IntKind.u64.wrap (-IntKind.u64.wrap n) = (N : Int) ∧ N < 18446744073709551616 ∧ Hid (N < 10 ^ 20) := neg_wrap n h0 h1
  go_enter Trym.func5, Trym.ntmps5
  go_wp2
  go_loopw [4, 5] (fun i u wr => ∃ k U : Nat, ∃ d, 1 ≤ k ∧ k ≤ 20 ∧ i = .int .i64 ((k : Int) + 1) ∧ u = .int .u64 (U : Int) ∧ U < 18446744073709551616 ∧ Hid (U < 10 ^ k) ∧ Digits w wr (k + 1) d ∧ Hid (∀ j, k + 1 ≤ j → j < 21 → 48 ≤ d j ∧ d j ≤ 57)) (fun i _ _ => (intOf i).toNat)
  case atStart => exact ⟨20, N, _, by omega, by omega, rfl, rfl, hNb, hpow, digits_start w, fun j h1 h2 => by omega⟩
  case round =>
    obtain ⟨k, U, d, hk1, hk2, rfl, rfl, hUb, hU, hD, hno⟩ := hrel
    have HD : Hid (Digits w wr (k + 1) d) := hD
    have c1 := hD.row.cell (i := k) (by omega)
    have c2 := hD.row.frozen k
    clear hD
    have HD1 : Hid (Digits w (wr.setCell ⟨w.heap.size, k, none⟩ (.int .u8 (48 + (U : Int) % 10))) k (fun j => if j = k then 48 + (U : Int) % 10 else d j)) := digits_step HD.out hno.out _ (by omega)
    have hno1 : Hid (∀ j, k ≤ j → j < 21 → 48 ≤ (if j = k then 48 + (U : Int) % 10 else d j) ∧ (if j = k then 48 + (U : Int) % 10 else d j) ≤ 57) := by
      intro j h1 h2
      by_cases e : j = k
      · rw [if_pos e]; omega
      · rw [if_neg e]; exact hno.out j (by omega) h2
    by_cases hz : U / 10 = 0
    · have e1 : ((U : Int) / 10 == 0) = true := by simp; omega
      clear hz
      obtain ⟨p, rfl⟩ : ∃ p, k = p + 1 := ⟨k - 1, by omega⟩
      have HD2 : Hid (Digits w ((wr.setCell ⟨w.heap.size, p + 1, none⟩ (.int .u8 (48 + (U : Int) % 10))).setCell ⟨w.heap.size, p, none⟩ (.int .u8 45)) p (fun j => if j = p then 45 else if j = p + 1 then 48 + (U : Int) % 10 else d j)) := digits_step HD1.out hno1.out 45 (Or.inl rfl)
      have c3 : (wr.setCell ⟨w.heap.size, p + 1, none⟩ (.int .u8 (48 + (U : Int) % 10))).cell? ⟨w.heap.size, p, none⟩ = some (.int .u8 (if p = p + 1 then 48 + (U : Int) % 10 else d p)) := HD1.out.row.cell (by omega)
      have c4 : (wr.setCell ⟨w.heap.size, p + 1, none⟩ (.int .u8 (48 + (U : Int) % 10))).frozen? ⟨w.heap.size, p, none⟩ = false := HD1.out.row.frozen p
      rw [if_neg (by omega)] at c3
      have hsl : ∀ W : World, (Instr.sliceAt 27 (.pointer (some ⟨w.heap.size, 0, none⟩)) (some (.int .i64 ((p : Nat) : Int))) none none).run Trym.prog W = .ok (.slice (some ⟨w.heap.size, p, none⟩) (21 - p) (21 - p)) W := fun W => slice27 w.heap.size p W (by omega)
      go_wp2_with (first
        | (at_make; refine mk_bytes _ rfl _ _ rfl w.heap.size _ (21 - p) rfl rfl (by omega) (by omega) ?_ ?_; exact HD2.out.old.size; intro w1 hown1 hgrow1; simp only [size_set] at hown1; have HO : Hid (w1.ownsRow w.heap.size 5 1 (.slice (some ⟨wr.heap.size, 0, none⟩) 0 (21 - p)) 0 []) := hown1; clear hown1; have HR : Hid (w1.rowIs w.heap.size 27 21 (fun j => .int .u8 ((fun j => if j = p then 45 else if j = p + 1 then 48 + (U : Int) % 10 else d j) j))) := HD2.out.row.of_block (hgrow1.block _ HD2.out.row.lt (by simp)); have HB1 : Below w.heap.size w w1 := HD2.out.old.grown hgrow1 HD2.out.old.size (by simp); clear hgrow1)
        | (at_builtin; refine app_bytes _ rfl _ _ rfl w.heap.size _ 0 [] rfl HO.out ⟨w.heap.size, p, none⟩ (21 - p) (21 - p) (tail (fun j => if j = p then 45 else if j = p + 1 then 48 + (U : Int) % 10 else d j) p) rfl (tail_length _ _) (tail_cells HR.out) (tail_one _ _) (by omega) (by omega) HB1.size ?_; intro g cap w2 hown2 hgrow2))
      go_ret
      exact ⟨_, rfl, text_of (i := p) (by omega) rfl (Or.inl (if_pos rfl)) hown2 (HB1.grown hgrow2 HB1.size (fun j hj => (HO.out.lt j hj).1))⟩
    · obtain ⟨V, hV, hV2⟩ : ∃ V : Nat, (U : Int) / 10 = (V : Int) ∧ Hid (V = U / 10) := ⟨U / 10, by omega, rfl⟩
      have hVb : V < 18446744073709551616 := by have := hV2.out; omega
      have e1 : ((V : Int) == 0) = false := by have := hV2.out; simp; omega
      obtain ⟨p, hp1, hp2⟩ : ∃ p, k = p + 1 ∧ Hid (1 ≤ p ∧ V < 10 ^ p) := ten_step hk1 hU.out hV2.out hz
      subst hp1
      have hp3 := hp2.out.1
      clear hz
      go_wp2
      go_roundw
      case rel => exact ⟨p, V, _, hp3, by omega, by go_num, rfl, hVb, hp2.out.2, HD1.out, fun j h1 h2 => hno1.out j h1 h2⟩
      case measure => simp [intOf]; omega

theorem text_any (n : Int) (w : World) (h0 : -9223372036854775808 ≤ n) (h1 : n ≤ 9223372036854775807) :
    Calls Trym.prog 5 #[.int .i64 n] w fun e w' => ∃ v, e = .returned v ∧ TextIs w w' v := by
  rcases Int.lt_or_le n 0 with h | h
  · exact text_neg n w h0 h
  · exact text_pos n w h h1

end Go.Proofs.Qxb6000814aMods
