import Derived.Test.Qxb6000814aModsProg
import Derived.WalkKit
import Derived.WalkSpells
import Derived.WalkLawsBesides
import Derived.Deep.OwnRows
import Derived.Deep.AppendLies
import Derived.Lib.AppendStr
namespace Go.Proofs.Qxb6000814aMods
open Go.RowKit

theorem cell_on {W W' : World} (hb : Below W.heap.size W W') {p : Addr} {v : Value} (h : W.cell? p = some v) : W'.cell? p = some v :=
  (hb.cell (World.block_lt_of_cell? _ _ h)).trans h

theorem bytes4_yes (x y : Int) (s : ByteArray) (w : World) (h : s.size ≤ 1048576) :
    Calls Trym.prog 4 #[.int .u8 x, .int .i64 y, .string s] w fun e w' => e = .returned (.bool true) ∧ w' = w := by
  go_enter Trym.func4, Trym.ntmps4
  go_wp2
  go_ret
  exact ⟨rfl, rfl⟩

theorem bytes4_no (x y : Int) (s : ByteArray) (w : World) (h : 1048576 < s.size) (hm : s.size ≤ 9223372036854775807) :
    Calls Trym.prog 4 #[.int .u8 x, .int .i64 y, .string s] w fun e w' => e = .returned (.bool false) ∧ w' = w := by
  go_enter Trym.func4, Trym.ntmps4
  go_wp2
  go_ret
  exact ⟨rfl, rfl⟩

/-- How jsonTypeOf names a value by its first byte. -/
def nameOf (x : Int) : ByteArray :=
  if x = 123 then ⟨#[97, 110, 32, 111, 98, 106, 101, 99, 116]⟩
  else if x = 91 then ⟨#[97, 110, 32, 97, 114, 114, 97, 121]⟩
  else if x = 34 then ⟨#[97, 32, 115, 116, 114, 105, 110, 103]⟩
  else if x = 116 ∨ x = 102 then ⟨#[97, 32, 98, 111, 111, 108, 101, 97, 110]⟩
  else if x = 110 then ⟨#[110, 117, 108, 108]⟩
  else ⟨#[97, 32, 110, 117, 109, 98, 101, 114]⟩

theorem ret_string {a b : ByteArray} (h : a = b) : Ending.returned (.string a) = .returned (.string b) := by rw [h]

theorem type_any (g n c : Nat) (x : Int) (w : World) (hn : 0 < n) (hc : w.cell? ⟨g, 0, none⟩ = some (.int .u8 x)) :
    Calls Trym.prog 8 #[.slice (some ⟨g, 0, none⟩) n c] w fun e w' => e = .returned (.string (nameOf x)) ∧ w' = w := by
  have d0 : ((n : Int) == 0) = false := by simp; omega
  have i0 : (0 : Int) < (n : Int) := by omega
  by_cases h1 : x = 123
  · subst h1
    go_enter Trym.func8, Trym.ntmps8
    go_wp2
    go_ret
    exact ⟨ret_string (by decide), rfl⟩
  have d1 : (x == 123) = false := by simp [h1]
  by_cases h2 : x = 91
  · subst h2
    go_enter Trym.func8, Trym.ntmps8
    go_wp2
    go_ret
    exact ⟨ret_string (by decide), rfl⟩
  have d2 : (x == 91) = false := by simp [h2]
  by_cases h3 : x = 34
  · subst h3
    go_enter Trym.func8, Trym.ntmps8
    go_wp2
    go_ret
    exact ⟨ret_string (by decide), rfl⟩
  have d3 : (x == 34) = false := by simp [h3]
  by_cases h4 : x = 116
  · subst h4
    go_enter Trym.func8, Trym.ntmps8
    go_wp2
    go_ret
    exact ⟨ret_string (by decide), rfl⟩
  have d4 : (x == 116) = false := by simp [h4]
  by_cases h5 : x = 102
  · subst h5
    go_enter Trym.func8, Trym.ntmps8
    go_wp2
    go_ret
    exact ⟨ret_string (by decide), rfl⟩
  have d5 : (x == 102) = false := by simp [h5]
  by_cases h6 : x = 110
  · subst h6
    go_enter Trym.func8, Trym.ntmps8
    go_wp2
    go_ret
    exact ⟨ret_string (by decide), rfl⟩
  have d6 : (x == 110) = false := by simp [h6]
  have hN : nameOf x = ⟨#[97, 32, 110, 117, 109, 98, 101, 114]⟩ := by simp [nameOf, h1, h2, h3, h4, h5, h6]
  rw [hN]
  clear hN h1 h2 h3 h4 h5 h6
  go_enter Trym.func8, Trym.ntmps8
  go_wp2
  go_ret
  exact ⟨rfl, rfl⟩

theorem zzType_any (g n c : Nat) (x : Int) (w : World) (hn : 0 < n) (hc : w.cell? ⟨g, 0, none⟩ = some (.int .u8 x)) :
    Calls Trym.prog 7 #[.slice (some ⟨g, 0, none⟩) n c] w fun e w' => e = .returned (.string (nameOf x)) ∧ w' = w := by
  go_enter Trym.func7, Trym.ntmps7
  go_wp2_with fail
  refine (type_any g n c x w hn hc).mono ?_
  rintro e w1 ⟨rfl, hw⟩
  obtain rfl := hw.symm
  go_wp2
  go_ret
  exact ⟨rfl, rfl⟩

theorem Trym.info5 : (Trym.prog.info? 5).map (fun i => (i.zero, i.size, i.bytes)) = some (some (.int .u8 0), 1, 1) := by kernel_rfl

/-- 'append(b, x...)' on bytes that the call owns. -/
theorem app_bytes (w : World) {ops : Array Oper} {rest : List Oper} {o : Oper} {a : Act} {Q : Exit → Act → World → Prop} (hgd : o.guard = none) (s x : Operand)
    (ho : o.op = .call { callee := .builtin .append, args := #[s, x], argTypes := #[23, 23] })
    (base : Nat) (v : Value) (n : Nat) (xs : List Value) (hs : a.eval s = v) (hown : w.ownsRow base 5 1 v n xs)
    (ad : Addr) (m c : Nat) (news : List Value) (hx : a.eval x = .slice (some ad) m c) (hl : news.length = m) (hnews : ∀ j u, news[j]? = some u → w.cell? (ad.add j) = some u) (h1 : ∀ u ∈ news, u.oneCell' = true)
    (hm : 0 < m) (hb : n + m ≤ 100000000) (hbase : base ≤ w.heap.size)
    (h : ∀ g cap w', w'.ownsRow base 5 1 (.slice (some ⟨g, 0, none⟩) (n + m) cap) (n + m) (xs ++ news) → w.grownBy w' v.ownBlock → wpList Trym.prog ops Q rest (a.put o.dst (.slice (some ⟨g, 0, none⟩) (n + m) cap)) w') :
    wpList Trym.prog ops Q (o :: rest) a w := by
  obtain ⟨i0, hi0, hzz⟩ := Option.map_eq_some_iff.1 Trym.info5
  simp only [Prod.mk.injEq] at hzz
  obtain ⟨hz0, hz1, hz2⟩ := hzz
  exact wpList_append_lies w hgd s x 23 ho base 5 i0 (.int .u8 0) 1 1 Trym.underlying23 hi0 hz0 hz1 hz2 rfl (by decide) v n xs hs hown ad m c news hx (by rw [hl]; omega) hnews h1 hm (by unfold maxLen; omega) (by omega) hbase w.heap.size rfl
    (fun g cap w' h2 h3 _ _ => h g cap w' h2 h3)

/-- An append of a text's bytes on bytes that the call owns. -/
theorem app_string (w : World) {ops : Array Oper} {rest : List Oper} {o : Oper} {a : Act} {Q : Exit → Act → World → Prop} (hgd : o.guard = none) (sl x : Operand)
    (ho : o.op = .call { callee := .builtin .append, args := #[sl, x], argTypes := #[23, 9] })
    (base : Nat) (v : Value) (n : Nat) (xs : List Value) (hs : a.eval sl = v) (hown : w.ownsRow base 5 1 v n xs) (s : ByteArray) (hx : a.eval x = .string s)
    (hm : 0 < s.size) (hb : n + s.size ≤ 100000000) (hbase : base ≤ w.heap.size)
    (h : ∀ g cap w', w'.ownsRow base 5 1 (.slice (some ⟨g, 0, none⟩) (n + s.size) cap) (n + s.size) (xs ++ Lib.strCells s) → w.grownBy w' v.ownBlock → wpList Trym.prog ops Q rest (a.put o.dst (.slice (some ⟨g, 0, none⟩) (n + s.size) cap)) w') :
    wpList Trym.prog ops Q (o :: rest) a w := by
  obtain ⟨i0, hi0, hzz⟩ := Option.map_eq_some_iff.1 Trym.info5
  simp only [Prod.mk.injEq] at hzz
  obtain ⟨hz0, hz1, hz2⟩ := hzz
  refine Lib.wpList_append_own_string w hgd sl x 23 9 ho base 5 i0 Trym.underlying23 Trym.underlying9 hi0 hz0 hz1 hz2 v n xs hs hown s hx (by unfold maxLen; omega) (by omega) hbase ?_
  intro v' w' h2 h3 _
  obtain ⟨g, cap, rfl, _, _⟩ := h2.form (by omega)
  exact h g cap w' h2 h3

end Go.Proofs.Qxb6000814aMods
