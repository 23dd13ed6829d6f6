/-
  No cell of these rows narrows 'for every input' (looked for: loops, veiled, ifaces, maps, wideKeys, modest, calm, conditions, laid).
  DERIVED. THE GIVEN ROWS OF THIS SEAT. 6 by the template 'for every input the law returns true; each argument reads behind the call as it read before'; 0 by the template 'total and deterministic' (their statements: Qxb6001730aModsTotals.lean).
  GIVEN WITH THE SEED: the statements are not yours to turn. If you find one false, say at which input.
  Laid BY PROGRAM, IN A SANDBOX (cutbox-rows.mjs): the forced cells as the released guide's own fill.sh prints them over the translation c699402ef5d109d0… (all of the seat's roots in one cut). By AI agents, Wed Nov 11 2026. No macro, syntax, notation, axiom, sorry.
-/
import Derived.Test.Qxb6001730aModsChecked
import GoSem.Claim
import GoSem.ClaimJoined
import GoSem.ClaimMapViews
import Derived.JoinedTies
import Derived.KernelRfl
namespace Go.Proofs.Qxb6001730aMods
/- THE CELL 'sum', in the pinned program and in every row, IS THE sha256 OF THE DUMP (.gsa) THAT Qxb6001730aModsProg.lean LOADS. Nothing in Lean hashes anything: it is a label: what it is worth is what the hold of that sum in a sandbox is worth. -/
noncomputable def Trym.pinned : Pinned := { name := "qxb6001730amods", sum := "c699402ef5d109d0b88a74ed339cfef368069607b1d5d86a57ec13bca32eaae1", checked := Trym.checked }
namespace Rows
def none {H : Type} : Left H := { results := [], args := [] }

/-- 'zzlaws_internal_agreement_b1.FnChecksClientsSavingViewCountsLeaderAndHalfTheFollowers': WHATEVER THE INPUT: true; the input reads as it did. -/
def fnChecksClientsSavingViewCountsLeaderAndHalfTheFollowersSpec : ChangeSpec := { name := "fnChecksClientsSavingViewCountsLeaderAndHalfTheFollowers", fn := fun _ => fun
  | [d1, d2, d3] => { results := [.lit (.bool true)], args := [d1, d2, d3] }
  | _ => none }
def fnChecksClientsSavingViewCountsLeaderAndHalfTheFollowersRow : OpenClaim := { program := "qxb6001730amods", sum := "c699402ef5d109d0b88a74ed339cfef368069607b1d5d86a57ec13bca32eaae1", func := "example.com/parsimon/parsimon/zzlaws_internal_agreement_b1.FnChecksClientsSavingViewCountsLeaderAndHalfTheFollowers", spec := "fnChecksClientsSavingViewCountsLeaderAndHalfTheFollowers", make := .lifted ["publicsums"], apart := false }
def FnChecksClientsSavingViewCountsLeaderAndHalfTheFollowersSaid : Prop := fnChecksClientsSavingViewCountsLeaderAndHalfTheFollowersRow.holds Trym.pinned (OpenSpec.ofChange fnChecksClientsSavingViewCountsLeaderAndHalfTheFollowersSpec)

/-- ITS FALSE NEIGHBOUR: 'it returns false'. Refute it at one input. -/
def fnChecksClientsSavingViewCountsLeaderAndHalfTheFollowersWrong : ChangeSpec := { name := "fnChecksClientsSavingViewCountsLeaderAndHalfTheFollowers", fn := fun _ => fun
  | [d1, d2, d3] => { results := [.lit (.bool false)], args := [d1, d2, d3] }
  | _ => none }
def FnChecksClientsSavingViewCountsLeaderAndHalfTheFollowersWrongFalsely : Prop := fnChecksClientsSavingViewCountsLeaderAndHalfTheFollowersRow.holds Trym.pinned (OpenSpec.ofChange fnChecksClientsSavingViewCountsLeaderAndHalfTheFollowersWrong)

/-- 'zzlaws_internal_agreement_b1.FnChecksClientsDutyPassesOnWithSeq': WHATEVER THE INPUT: true; the input reads as it did. -/
def fnChecksClientsDutyPassesOnWithSeqSpec : ChangeSpec := { name := "fnChecksClientsDutyPassesOnWithSeq", fn := fun _ => fun
  | [d1, d2, d3] => { results := [.lit (.bool true)], args := [d1, d2, d3] }
  | _ => none }
def fnChecksClientsDutyPassesOnWithSeqRow : OpenClaim := { program := "qxb6001730amods", sum := "c699402ef5d109d0b88a74ed339cfef368069607b1d5d86a57ec13bca32eaae1", func := "example.com/parsimon/parsimon/zzlaws_internal_agreement_b1.FnChecksClientsDutyPassesOnWithSeq", spec := "fnChecksClientsDutyPassesOnWithSeq", make := .lifted ["publicsums"], apart := false }
def FnChecksClientsDutyPassesOnWithSeqSaid : Prop := fnChecksClientsDutyPassesOnWithSeqRow.holds Trym.pinned (OpenSpec.ofChange fnChecksClientsDutyPassesOnWithSeqSpec)

/-- ITS FALSE NEIGHBOUR: 'it returns false'. Refute it at one input. -/
def fnChecksClientsDutyPassesOnWithSeqWrong : ChangeSpec := { name := "fnChecksClientsDutyPassesOnWithSeq", fn := fun _ => fun
  | [d1, d2, d3] => { results := [.lit (.bool false)], args := [d1, d2, d3] }
  | _ => none }
def FnChecksClientsDutyPassesOnWithSeqWrongFalsely : Prop := fnChecksClientsDutyPassesOnWithSeqRow.holds Trym.pinned (OpenSpec.ofChange fnChecksClientsDutyPassesOnWithSeqWrong)

/-- 'zzlaws_internal_agreement_b1.FnSwitchViewIsFirstLaterRoundOfSavingLeader': WHATEVER THE INPUT: true; the input reads as it did. -/
def fnSwitchViewIsFirstLaterRoundOfSavingLeaderSpec : ChangeSpec := { name := "fnSwitchViewIsFirstLaterRoundOfSavingLeader", fn := fun _ => fun
  | [d1, d2, d3] => { results := [.lit (.bool true)], args := [d1, d2, d3] }
  | _ => none }
def fnSwitchViewIsFirstLaterRoundOfSavingLeaderRow : OpenClaim := { program := "qxb6001730amods", sum := "c699402ef5d109d0b88a74ed339cfef368069607b1d5d86a57ec13bca32eaae1", func := "example.com/parsimon/parsimon/zzlaws_internal_agreement_b1.FnSwitchViewIsFirstLaterRoundOfSavingLeader", spec := "fnSwitchViewIsFirstLaterRoundOfSavingLeader", make := .lifted ["publicsums"], apart := false }
def FnSwitchViewIsFirstLaterRoundOfSavingLeaderSaid : Prop := fnSwitchViewIsFirstLaterRoundOfSavingLeaderRow.holds Trym.pinned (OpenSpec.ofChange fnSwitchViewIsFirstLaterRoundOfSavingLeaderSpec)

/-- ITS FALSE NEIGHBOUR: 'it returns false'. Refute it at one input. -/
def fnSwitchViewIsFirstLaterRoundOfSavingLeaderWrong : ChangeSpec := { name := "fnSwitchViewIsFirstLaterRoundOfSavingLeader", fn := fun _ => fun
  | [d1, d2, d3] => { results := [.lit (.bool false)], args := [d1, d2, d3] }
  | _ => none }
def FnSwitchViewIsFirstLaterRoundOfSavingLeaderWrongFalsely : Prop := fnSwitchViewIsFirstLaterRoundOfSavingLeaderRow.holds Trym.pinned (OpenSpec.ofChange fnSwitchViewIsFirstLaterRoundOfSavingLeaderWrong)

/-- 'zzlaws_internal_agreement_b1.FnSwitchViewDependsOnEpochAloneAndIsResilient': WHATEVER THE INPUT: true; the input reads as it did. -/
def fnSwitchViewDependsOnEpochAloneAndIsResilientSpec : ChangeSpec := { name := "fnSwitchViewDependsOnEpochAloneAndIsResilient", fn := fun _ => fun
  | [d1, d2, d3, d4] => { results := [.lit (.bool true)], args := [d1, d2, d3, d4] }
  | _ => none }
def fnSwitchViewDependsOnEpochAloneAndIsResilientRow : OpenClaim := { program := "qxb6001730amods", sum := "c699402ef5d109d0b88a74ed339cfef368069607b1d5d86a57ec13bca32eaae1", func := "example.com/parsimon/parsimon/zzlaws_internal_agreement_b1.FnSwitchViewDependsOnEpochAloneAndIsResilient", spec := "fnSwitchViewDependsOnEpochAloneAndIsResilient", make := .lifted ["publicsums"], apart := false }
def FnSwitchViewDependsOnEpochAloneAndIsResilientSaid : Prop := fnSwitchViewDependsOnEpochAloneAndIsResilientRow.holds Trym.pinned (OpenSpec.ofChange fnSwitchViewDependsOnEpochAloneAndIsResilientSpec)

/-- ITS FALSE NEIGHBOUR: 'it returns false'. Refute it at one input. -/
def fnSwitchViewDependsOnEpochAloneAndIsResilientWrong : ChangeSpec := { name := "fnSwitchViewDependsOnEpochAloneAndIsResilient", fn := fun _ => fun
  | [d1, d2, d3, d4] => { results := [.lit (.bool false)], args := [d1, d2, d3, d4] }
  | _ => none }
def FnSwitchViewDependsOnEpochAloneAndIsResilientWrongFalsely : Prop := fnSwitchViewDependsOnEpochAloneAndIsResilientRow.holds Trym.pinned (OpenSpec.ofChange fnSwitchViewDependsOnEpochAloneAndIsResilientWrong)

/-- 'zzlaws_internal_agreement_b1.FnProvenHistoryMatchesModel': WHATEVER THE INPUT: true; the input reads as it did. -/
def fnProvenHistoryMatchesModelSpec : ChangeSpec := { name := "fnProvenHistoryMatchesModel", fn := fun _ => fun
  | [d1, d2, d3, d4] => { results := [.lit (.bool true)], args := [d1, d2, d3, d4] }
  | _ => none }
def fnProvenHistoryMatchesModelRow : OpenClaim := { program := "qxb6001730amods", sum := "c699402ef5d109d0b88a74ed339cfef368069607b1d5d86a57ec13bca32eaae1", func := "example.com/parsimon/parsimon/zzlaws_internal_agreement_b1.FnProvenHistoryMatchesModel", spec := "fnProvenHistoryMatchesModel", make := .lifted ["publicsums"], apart := false }
def FnProvenHistoryMatchesModelSaid : Prop := fnProvenHistoryMatchesModelRow.holds Trym.pinned (OpenSpec.ofChange fnProvenHistoryMatchesModelSpec)

/-- ITS FALSE NEIGHBOUR: 'it returns false'. Refute it at one input. -/
def fnProvenHistoryMatchesModelWrong : ChangeSpec := { name := "fnProvenHistoryMatchesModel", fn := fun _ => fun
  | [d1, d2, d3, d4] => { results := [.lit (.bool false)], args := [d1, d2, d3, d4] }
  | _ => none }
def FnProvenHistoryMatchesModelWrongFalsely : Prop := fnProvenHistoryMatchesModelRow.holds Trym.pinned (OpenSpec.ofChange fnProvenHistoryMatchesModelWrong)

/-- 'zzlaws_internal_agreement_b1.FnProvenHistoryOrderOfVotesChangesNoView': WHATEVER THE INPUT: true; the input reads as it did. -/
def fnProvenHistoryOrderOfVotesChangesNoViewSpec : ChangeSpec := { name := "fnProvenHistoryOrderOfVotesChangesNoView", fn := fun _ => fun
  | [d1, d2, d3, d4] => { results := [.lit (.bool true)], args := [d1, d2, d3, d4] }
  | _ => none }
def fnProvenHistoryOrderOfVotesChangesNoViewRow : OpenClaim := { program := "qxb6001730amods", sum := "c699402ef5d109d0b88a74ed339cfef368069607b1d5d86a57ec13bca32eaae1", func := "example.com/parsimon/parsimon/zzlaws_internal_agreement_b1.FnProvenHistoryOrderOfVotesChangesNoView", spec := "fnProvenHistoryOrderOfVotesChangesNoView", make := .lifted ["publicsums"], apart := false }
def FnProvenHistoryOrderOfVotesChangesNoViewSaid : Prop := fnProvenHistoryOrderOfVotesChangesNoViewRow.holds Trym.pinned (OpenSpec.ofChange fnProvenHistoryOrderOfVotesChangesNoViewSpec)

/-- ITS FALSE NEIGHBOUR: 'it returns false'. Refute it at one input. -/
def fnProvenHistoryOrderOfVotesChangesNoViewWrong : ChangeSpec := { name := "fnProvenHistoryOrderOfVotesChangesNoView", fn := fun _ => fun
  | [d1, d2, d3, d4] => { results := [.lit (.bool false)], args := [d1, d2, d3, d4] }
  | _ => none }
def FnProvenHistoryOrderOfVotesChangesNoViewWrongFalsely : Prop := fnProvenHistoryOrderOfVotesChangesNoViewRow.holds Trym.pinned (OpenSpec.ofChange fnProvenHistoryOrderOfVotesChangesNoViewWrong)

end Rows
end Go.Proofs.Qxb6001730aMods
