/-
  No cell of these rows narrows 'for every input' (looked for: loops, veiled, ifaces, maps, wideKeys, modest, calm, conditions, laid).
  DERIVED. THE GIVEN ROWS OF THIS SEAT. 1 by the template 'for every input the law returns true; each argument reads behind the call as it read before'; 0 by the template 'total and deterministic' (their statements: Qxb6000814aModsTotals.lean).
  GIVEN WITH THE SEED: the statements are not yours to turn. If you find one false, say at which input.
  Laid BY PROGRAM, IN A SANDBOX (cutbox-rows.mjs): the forced cells as the released guide's own fill.sh prints them over the translation 7e60ce12789cefd0… (all of the seat's roots in one cut). By AI agents, Wed Nov 11 2026. No macro, syntax, notation, axiom, sorry.
-/
import Derived.Test.Qxb6000814aModsChecked
import GoSem.Claim
import GoSem.ClaimJoined
import GoSem.ClaimMapViews
import Derived.JoinedTies
import Derived.KernelRfl
namespace Go.Proofs.Qxb6000814aMods
/- THE CELL 'sum', in the pinned program and in every row, IS THE sha256 OF THE DUMP (.gsa) THAT Qxb6000814aModsProg.lean LOADS. Nothing in Lean hashes anything: it is a label: what it is worth is what the hold of that sum in a sandbox is worth. -/
noncomputable def Trym.pinned : Pinned := { name := "qxb6000814amods", sum := "7e60ce12789cefd00fae84ae0f53a190928dcfc3e2416bef9514e5d9623d11b9", checked := Trym.checked }
namespace Rows
def none {H : Type} : Left H := { results := [], args := [] }

/-- 'zzlaws_internal_manifest_b1.FnJSONTypeOfNamesWhatWasWritten': WHATEVER THE INPUT: true; the input reads as it did. -/
def fnJSONTypeOfNamesWhatWasWrittenSpec : ChangeSpec := { name := "fnJSONTypeOfNamesWhatWasWritten", fn := fun _ => fun
  | [d1, d2, d3] => { results := [.lit (.bool true)], args := [d1, d2, d3] }
  | _ => none }
def fnJSONTypeOfNamesWhatWasWrittenRow : OpenClaim := { program := "qxb6000814amods", sum := "7e60ce12789cefd00fae84ae0f53a190928dcfc3e2416bef9514e5d9623d11b9", func := "example.com/claimwright/claimwright/zzlaws_internal_manifest_b1.FnJSONTypeOfNamesWhatWasWritten", spec := "fnJSONTypeOfNamesWhatWasWritten", make := .lifted ["publicsums"], apart := false }
def FnJSONTypeOfNamesWhatWasWrittenSaid : Prop := fnJSONTypeOfNamesWhatWasWrittenRow.holds Trym.pinned (OpenSpec.ofChange fnJSONTypeOfNamesWhatWasWrittenSpec)

/-- ITS FALSE NEIGHBOUR: 'it returns false'. Refute it at one input. -/
def fnJSONTypeOfNamesWhatWasWrittenWrong : ChangeSpec := { name := "fnJSONTypeOfNamesWhatWasWritten", fn := fun _ => fun
  | [d1, d2, d3] => { results := [.lit (.bool false)], args := [d1, d2, d3] }
  | _ => none }
def FnJSONTypeOfNamesWhatWasWrittenWrongFalsely : Prop := fnJSONTypeOfNamesWhatWasWrittenRow.holds Trym.pinned (OpenSpec.ofChange fnJSONTypeOfNamesWhatWasWrittenWrong)

end Rows
end Go.Proofs.Qxb6000814aMods
