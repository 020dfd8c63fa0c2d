/-
  No cell of these rows narrows 'for every input' (looked for: loops, veiled, ifaces, maps, wideKeys, modest, calm, conditions, laid).
  DERIVED. THE GIVEN ROWS OF THIS SEAT. 5 by the template 'for every input the law returns true; each argument reads behind the call as it read before'; 0 by the template 'total and deterministic' (their statements: Qxb6619635aTotals.lean).
  GIVEN WITH THE SEED: the statements are not yours to turn. If you find one false, say at which input.
  Laid BY PROGRAM, IN A SANDBOX (cutbox-rows.mjs): the forced cells as the released guide's own fill.sh prints them over the translation 4b17608c55db58f7… (all of the seat's roots in one cut). By AI agents, Wed Nov 11 2026. No macro, syntax, notation, axiom, sorry.
-/
import Derived.Test.Qxb6619635aChecked
import GoSem.Claim
import GoSem.ClaimJoined
import GoSem.ClaimMapViews
import Derived.JoinedTies
import Derived.KernelRfl
namespace Go.Proofs.Qxb6619635a
/- THE CELL 'sum', in the pinned program and in every row, IS THE sha256 OF THE DUMP (.gsa) THAT Qxb6619635aProg.lean LOADS. Nothing in Lean hashes anything: it is a label: what it is worth is what the hold of that sum in a sandbox is worth. -/
noncomputable def Try.pinned : Pinned := { name := "qxb6619635a", sum := "4b17608c55db58f7333af0208ff46dca4babc516334a9a7760499e52f3d01ed9", checked := Try.checked }
namespace Rows
def none {H : Type} : Left H := { results := [], args := [] }

/-- 'zzlaws_charging_b1.FnChargesOfSplitsAtAnyCutAndSumsWhatWasDebited': WHATEVER THE INPUT: true; the input reads as it did. -/
def fnChargesOfSplitsAtAnyCutAndSumsWhatWasDebitedSpec : ChangeSpec := { name := "fnChargesOfSplitsAtAnyCutAndSumsWhatWasDebited", fn := fun _ => fun
  | [d1, d2, d3, d4] => { results := [.lit (.bool true)], args := [d1, d2, d3, d4] }
  | _ => none }
def fnChargesOfSplitsAtAnyCutAndSumsWhatWasDebitedRow : OpenClaim := { program := "qxb6619635a", sum := "4b17608c55db58f7333af0208ff46dca4babc516334a9a7760499e52f3d01ed9", func := "example.com/tallywire/tallywire/zzlaws_charging_b1.FnChargesOfSplitsAtAnyCutAndSumsWhatWasDebited", spec := "fnChargesOfSplitsAtAnyCutAndSumsWhatWasDebited", apart := false }
def FnChargesOfSplitsAtAnyCutAndSumsWhatWasDebitedSaid : Prop := fnChargesOfSplitsAtAnyCutAndSumsWhatWasDebitedRow.holds Try.pinned (OpenSpec.ofChange fnChargesOfSplitsAtAnyCutAndSumsWhatWasDebitedSpec)

/-- ITS FALSE NEIGHBOUR: 'it returns false'. Refute it at one input. -/
def fnChargesOfSplitsAtAnyCutAndSumsWhatWasDebitedWrong : ChangeSpec := { name := "fnChargesOfSplitsAtAnyCutAndSumsWhatWasDebited", fn := fun _ => fun
  | [d1, d2, d3, d4] => { results := [.lit (.bool false)], args := [d1, d2, d3, d4] }
  | _ => none }
def FnChargesOfSplitsAtAnyCutAndSumsWhatWasDebitedWrongFalsely : Prop := fnChargesOfSplitsAtAnyCutAndSumsWhatWasDebitedRow.holds Try.pinned (OpenSpec.ofChange fnChargesOfSplitsAtAnyCutAndSumsWhatWasDebitedWrong)

/-- 'zzlaws_charging_b1.FnChargesOfEntriesAreFoundByFindGroupAndAddUpToCharged': WHATEVER THE INPUT: true; the input reads as it did. -/
def fnChargesOfEntriesAreFoundByFindGroupAndAddUpToChargedSpec : ChangeSpec := { name := "fnChargesOfEntriesAreFoundByFindGroupAndAddUpToCharged", fn := fun _ => fun
  | [d1, d2, d3] => { results := [.lit (.bool true)], args := [d1, d2, d3] }
  | _ => none }
def fnChargesOfEntriesAreFoundByFindGroupAndAddUpToChargedRow : OpenClaim := { program := "qxb6619635a", sum := "4b17608c55db58f7333af0208ff46dca4babc516334a9a7760499e52f3d01ed9", func := "example.com/tallywire/tallywire/zzlaws_charging_b1.FnChargesOfEntriesAreFoundByFindGroupAndAddUpToCharged", spec := "fnChargesOfEntriesAreFoundByFindGroupAndAddUpToCharged", apart := false }
def FnChargesOfEntriesAreFoundByFindGroupAndAddUpToChargedSaid : Prop := fnChargesOfEntriesAreFoundByFindGroupAndAddUpToChargedRow.holds Try.pinned (OpenSpec.ofChange fnChargesOfEntriesAreFoundByFindGroupAndAddUpToChargedSpec)

/-- ITS FALSE NEIGHBOUR: 'it returns false'. Refute it at one input. -/
def fnChargesOfEntriesAreFoundByFindGroupAndAddUpToChargedWrong : ChangeSpec := { name := "fnChargesOfEntriesAreFoundByFindGroupAndAddUpToCharged", fn := fun _ => fun
  | [d1, d2, d3] => { results := [.lit (.bool false)], args := [d1, d2, d3] }
  | _ => none }
def FnChargesOfEntriesAreFoundByFindGroupAndAddUpToChargedWrongFalsely : Prop := fnChargesOfEntriesAreFoundByFindGroupAndAddUpToChargedRow.holds Try.pinned (OpenSpec.ofChange fnChargesOfEntriesAreFoundByFindGroupAndAddUpToChargedWrong)

/-- 'zzlaws_charging_b1.FnFindGroupSplitsAtAnyCutAndFindsTheFirst': WHATEVER THE INPUT: true; the input reads as it did. -/
def fnFindGroupSplitsAtAnyCutAndFindsTheFirstSpec : ChangeSpec := { name := "fnFindGroupSplitsAtAnyCutAndFindsTheFirst", fn := fun _ => fun
  | [d1, d2, d3] => { results := [.lit (.bool true)], args := [d1, d2, d3] }
  | _ => none }
def fnFindGroupSplitsAtAnyCutAndFindsTheFirstRow : OpenClaim := { program := "qxb6619635a", sum := "4b17608c55db58f7333af0208ff46dca4babc516334a9a7760499e52f3d01ed9", func := "example.com/tallywire/tallywire/zzlaws_charging_b1.FnFindGroupSplitsAtAnyCutAndFindsTheFirst", spec := "fnFindGroupSplitsAtAnyCutAndFindsTheFirst", apart := false }
def FnFindGroupSplitsAtAnyCutAndFindsTheFirstSaid : Prop := fnFindGroupSplitsAtAnyCutAndFindsTheFirstRow.holds Try.pinned (OpenSpec.ofChange fnFindGroupSplitsAtAnyCutAndFindsTheFirstSpec)

/-- ITS FALSE NEIGHBOUR: 'it returns false'. Refute it at one input. -/
def fnFindGroupSplitsAtAnyCutAndFindsTheFirstWrong : ChangeSpec := { name := "fnFindGroupSplitsAtAnyCutAndFindsTheFirst", fn := fun _ => fun
  | [d1, d2, d3] => { results := [.lit (.bool false)], args := [d1, d2, d3] }
  | _ => none }
def FnFindGroupSplitsAtAnyCutAndFindsTheFirstWrongFalsely : Prop := fnFindGroupSplitsAtAnyCutAndFindsTheFirstRow.holds Try.pinned (OpenSpec.ofChange fnFindGroupSplitsAtAnyCutAndFindsTheFirstWrong)

/-- 'zzlaws_charging_b1.FnRefuseSplitsAtAnyCutAndLeavesNoSuccess': WHATEVER THE INPUT: true; the input reads as it did. -/
def fnRefuseSplitsAtAnyCutAndLeavesNoSuccessSpec : ChangeSpec := { name := "fnRefuseSplitsAtAnyCutAndLeavesNoSuccess", fn := fun _ => fun
  | [d1, d2] => { results := [.lit (.bool true)], args := [d1, d2] }
  | _ => none }
def fnRefuseSplitsAtAnyCutAndLeavesNoSuccessRow : OpenClaim := { program := "qxb6619635a", sum := "4b17608c55db58f7333af0208ff46dca4babc516334a9a7760499e52f3d01ed9", func := "example.com/tallywire/tallywire/zzlaws_charging_b1.FnRefuseSplitsAtAnyCutAndLeavesNoSuccess", spec := "fnRefuseSplitsAtAnyCutAndLeavesNoSuccess", apart := false }
def FnRefuseSplitsAtAnyCutAndLeavesNoSuccessSaid : Prop := fnRefuseSplitsAtAnyCutAndLeavesNoSuccessRow.holds Try.pinned (OpenSpec.ofChange fnRefuseSplitsAtAnyCutAndLeavesNoSuccessSpec)

/-- ITS FALSE NEIGHBOUR: 'it returns false'. Refute it at one input. -/
def fnRefuseSplitsAtAnyCutAndLeavesNoSuccessWrong : ChangeSpec := { name := "fnRefuseSplitsAtAnyCutAndLeavesNoSuccess", fn := fun _ => fun
  | [d1, d2] => { results := [.lit (.bool false)], args := [d1, d2] }
  | _ => none }
def FnRefuseSplitsAtAnyCutAndLeavesNoSuccessWrongFalsely : Prop := fnRefuseSplitsAtAnyCutAndLeavesNoSuccessRow.holds Try.pinned (OpenSpec.ofChange fnRefuseSplitsAtAnyCutAndLeavesNoSuccessWrong)

/-- 'zzlaws_charging_b1.FnRefuseIsIdempotentAndKeepsOtherAnswers': WHATEVER THE INPUT: true; the input reads as it did. -/
def fnRefuseIsIdempotentAndKeepsOtherAnswersSpec : ChangeSpec := { name := "fnRefuseIsIdempotentAndKeepsOtherAnswers", fn := fun _ => fun
  | [d] => { results := [.lit (.bool true)], args := [d] }
  | _ => none }
def fnRefuseIsIdempotentAndKeepsOtherAnswersRow : OpenClaim := { program := "qxb6619635a", sum := "4b17608c55db58f7333af0208ff46dca4babc516334a9a7760499e52f3d01ed9", func := "example.com/tallywire/tallywire/zzlaws_charging_b1.FnRefuseIsIdempotentAndKeepsOtherAnswers", spec := "fnRefuseIsIdempotentAndKeepsOtherAnswers", apart := false }
def FnRefuseIsIdempotentAndKeepsOtherAnswersSaid : Prop := fnRefuseIsIdempotentAndKeepsOtherAnswersRow.holds Try.pinned (OpenSpec.ofChange fnRefuseIsIdempotentAndKeepsOtherAnswersSpec)

/-- ITS FALSE NEIGHBOUR: 'it returns false'. Refute it at one input. -/
def fnRefuseIsIdempotentAndKeepsOtherAnswersWrong : ChangeSpec := { name := "fnRefuseIsIdempotentAndKeepsOtherAnswers", fn := fun _ => fun
  | [d] => { results := [.lit (.bool false)], args := [d] }
  | _ => none }
def FnRefuseIsIdempotentAndKeepsOtherAnswersWrongFalsely : Prop := fnRefuseIsIdempotentAndKeepsOtherAnswersRow.holds Try.pinned (OpenSpec.ofChange fnRefuseIsIdempotentAndKeepsOtherAnswersWrong)

end Rows
end Go.Proofs.Qxb6619635a
