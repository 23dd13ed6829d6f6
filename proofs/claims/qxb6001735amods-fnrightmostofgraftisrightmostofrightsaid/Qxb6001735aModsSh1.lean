import Derived.Test.Qxb6001735aModsProg
import Derived.WalkKit
import Derived.WalkSpells
import Derived.WalkLawsBesides
import Derived.Deep.OwnRows
namespace Go.Proofs.Qxb6001735aMods
open Go.RowKit

theorem cell_on {W W' : World} (hb : Below W.heap.size W W') {p : Addr} {v : Value} (h : W.cell? p = some v) : W'.cell? p = some v :=
  (hb.cell (World.block_lt_of_cell? _ _ h)).trans h

def ptr (o : Option Nat) : Value := .pointer (o.map fun b => ⟨b, 0, none⟩)

theorem first_any (b : Nat) (k : Int) (w : World) (h : w.cell? ⟨b, 0, none⟩ = some (.int .i64 k)) :
    Calls Trym.prog 9 #[.pointer (some ⟨b, 0, none⟩)] w fun e w' => e = .returned (.int .i64 k) ∧ w' = w := by
  go_enter Trym.func9, Trym.ntmps9
  go_wp2
  go_ret
  exact ⟨rfl, rfl⟩

theorem right_any (b : Nat) (o : Option Addr) (w : World) (h : w.cell? ⟨b, 6, none⟩ = some (.pointer o)) :
    Calls Trym.prog 10 #[.pointer (some ⟨b, 0, none⟩)] w fun e w' => e = .returned (.pointer o) ∧ w' = w := by
  go_enter Trym.func10, Trym.ntmps10
  go_wp2
  go_ret
  exact ⟨rfl, rfl⟩

theorem left_any (b : Nat) (o : Option Addr) (w : World) (h : w.cell? ⟨b, 5, none⟩ = some (.pointer o)) :
    Calls Trym.prog 16 #[.pointer (some ⟨b, 0, none⟩)] w fun e w' => e = .returned (.pointer o) ∧ w' = w := by
  go_enter Trym.func16, Trym.ntmps16
  go_wp2
  go_ret
  exact ⟨rfl, rfl⟩

theorem setRight_any (b : Nat) (o o' : Option Addr) (w : World) (h : w.cell? ⟨b, 6, none⟩ = some (.pointer o)) (hf : w.frozen? ⟨b, 6, none⟩ = false) :
    Calls Trym.prog 13 #[.pointer (some ⟨b, 0, none⟩), .pointer o'] w fun e w' => e = .returned (.tuple #[]) ∧ w' = w.setCell ⟨b, 6, none⟩ (.pointer o') := by
  go_enter Trym.func13, Trym.ntmps13
  go_wp2
  go_end0
  exact ⟨rfl, rfl⟩

theorem setLeft_any (b : Nat) (o o' : Option Addr) (w : World) (h : w.cell? ⟨b, 5, none⟩ = some (.pointer o)) (hf : w.frozen? ⟨b, 5, none⟩ = false) :
    Calls Trym.prog 17 #[.pointer (some ⟨b, 0, none⟩), .pointer o'] w fun e w' => e = .returned (.tuple #[]) ∧ w' = w.setCell ⟨b, 5, none⟩ (.pointer o') := by
  go_enter Trym.func17, Trym.ntmps17
  go_wp2
  go_end0
  exact ⟨rfl, rfl⟩

theorem new_any (k : Int) (w : World) :
    Calls Trym.prog 15 #[.int .i64 k] w fun e w' => e = .returned (.pointer (some ⟨w.heap.size, 0, none⟩)) ∧ w' = w.alloc (.cells #[.int .i64 k, .int .i64 k, .int .i32 0, .pointer none, .int .u64 0, .pointer none, .pointer none] 40) := by
  go_enter Trym.func15, Trym.ntmps15
  go_wp2
  go_ret
  exact ⟨rfl, rfl⟩

theorem rightmost_nil (w : World) : Calls Trym.prog 14 #[.pointer none] w fun e w' => e = .returned (.pointer none) ∧ w' = w := by
  go_enter Trym.func14, Trym.ntmps14
  go_wp2
  go_ret
  exact ⟨rfl, rfl⟩

end Go.Proofs.Qxb6001735aMods
