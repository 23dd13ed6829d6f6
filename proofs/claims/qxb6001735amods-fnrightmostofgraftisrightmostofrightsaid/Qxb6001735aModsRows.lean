/-
  No cell of these rows narrows 'for every input' (looked for: loops, veiled, ifaces, maps, wideKeys, modest, calm, conditions, laid).
  DERIVED. THE GIVEN ROWS OF THIS SEAT. 2 by the template 'for every input the law returns true; each argument reads behind the call as it read before'; 0 by the template 'total and deterministic' (their statements: Qxb6001735aModsTotals.lean).
  GIVEN WITH THE SEED: the statements are not yours to turn. If you find one false, say at which input.
  Laid BY PROGRAM, IN A SANDBOX (cutbox-rows.mjs): the forced cells as the released guide's own fill.sh prints them over the translation d22e261ae086c095… (all of the seat's roots in one cut). By AI agents, Wed Nov 11 2026. No macro, syntax, notation, axiom, sorry.
-/
import Derived.Test.Qxb6001735aModsChecked
import GoSem.Claim
import GoSem.ClaimJoined
import GoSem.ClaimMapViews
import Derived.JoinedTies
import Derived.KernelRfl
namespace Go.Proofs.Qxb6001735aMods
/- THE CELL 'sum', in the pinned program and in every row, IS THE sha256 OF THE DUMP (.gsa) THAT Qxb6001735aModsProg.lean LOADS. Nothing in Lean hashes anything: it is a label: what it is worth is what the hold of that sum in a sandbox is worth. -/
noncomputable def Trym.pinned : Pinned := { name := "qxb6001735amods", sum := "d22e261ae086c0959b20d51a943ce3c128146bb9dac2c6d66ee4e1d61221a5aa", checked := Trym.checked }
namespace Rows
def none {H : Type} : Left H := { results := [], args := [] }

/-- 'zzlaws_pkg_scenario_b1.FnRightmostIsRunningMaximum': WHATEVER THE INPUT: true; the input reads as it did. -/
def fnRightmostIsRunningMaximumSpec : ChangeSpec := { name := "fnRightmostIsRunningMaximum", fn := fun _ => fun
  | [d] => { results := [.lit (.bool true)], args := [d] }
  | _ => none }
def fnRightmostIsRunningMaximumRow : OpenClaim := { program := "qxb6001735amods", sum := "d22e261ae086c0959b20d51a943ce3c128146bb9dac2c6d66ee4e1d61221a5aa", func := "example.com/loadwarden/loadwarden/zzlaws_pkg_scenario_b1.FnRightmostIsRunningMaximum", spec := "fnRightmostIsRunningMaximum", make := .lifted ["publicsums"], apart := false }
def FnRightmostIsRunningMaximumSaid : Prop := fnRightmostIsRunningMaximumRow.holds Trym.pinned (OpenSpec.ofChange fnRightmostIsRunningMaximumSpec)

/-- ITS FALSE NEIGHBOUR: 'it returns false'. Refute it at one input. -/
def fnRightmostIsRunningMaximumWrong : ChangeSpec := { name := "fnRightmostIsRunningMaximum", fn := fun _ => fun
  | [d] => { results := [.lit (.bool false)], args := [d] }
  | _ => none }
def FnRightmostIsRunningMaximumWrongFalsely : Prop := fnRightmostIsRunningMaximumRow.holds Trym.pinned (OpenSpec.ofChange fnRightmostIsRunningMaximumWrong)

/-- 'zzlaws_pkg_scenario_b1.FnRightmostOfGraftIsRightmostOfRight': WHATEVER THE INPUT: true; the input reads as it did. -/
def fnRightmostOfGraftIsRightmostOfRightSpec : ChangeSpec := { name := "fnRightmostOfGraftIsRightmostOfRight", fn := fun _ => fun
  | [d1, d2] => { results := [.lit (.bool true)], args := [d1, d2] }
  | _ => none }
def fnRightmostOfGraftIsRightmostOfRightRow : OpenClaim := { program := "qxb6001735amods", sum := "d22e261ae086c0959b20d51a943ce3c128146bb9dac2c6d66ee4e1d61221a5aa", func := "example.com/loadwarden/loadwarden/zzlaws_pkg_scenario_b1.FnRightmostOfGraftIsRightmostOfRight", spec := "fnRightmostOfGraftIsRightmostOfRight", make := .lifted ["publicsums"], apart := false }
def FnRightmostOfGraftIsRightmostOfRightSaid : Prop := fnRightmostOfGraftIsRightmostOfRightRow.holds Trym.pinned (OpenSpec.ofChange fnRightmostOfGraftIsRightmostOfRightSpec)

/-- ITS FALSE NEIGHBOUR: 'it returns false'. Refute it at one input. -/
def fnRightmostOfGraftIsRightmostOfRightWrong : ChangeSpec := { name := "fnRightmostOfGraftIsRightmostOfRight", fn := fun _ => fun
  | [d1, d2] => { results := [.lit (.bool false)], args := [d1, d2] }
  | _ => none }
def FnRightmostOfGraftIsRightmostOfRightWrongFalsely : Prop := fnRightmostOfGraftIsRightmostOfRightRow.holds Trym.pinned (OpenSpec.ofChange fnRightmostOfGraftIsRightmostOfRightWrong)

end Rows
end Go.Proofs.Qxb6001735aMods
