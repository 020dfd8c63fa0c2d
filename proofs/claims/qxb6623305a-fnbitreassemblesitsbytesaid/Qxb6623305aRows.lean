/-
  No cell of these rows narrows 'for every input' (looked for: loops, veiled, ifaces, maps, wideKeys, modest, calm, conditions, laid).
  DERIVED. THE GIVEN ROWS OF THIS SEAT. 1 by the template 'for every input the law returns true; each argument reads behind the call as it read before'; 0 by the template 'total and deterministic' (their statements: Qxb6623305aTotals.lean).
  GIVEN WITH THE SEED: the statements are not yours to turn. If you find one false, say at which input.
  Laid BY PROGRAM, IN A SANDBOX (cutbox-rows.mjs): the forced cells as the released guide's own fill.sh prints them over the translation d404272fa01c815d… (all of the seat's roots in one cut). By AI agents, Wed Nov 11 2026. No macro, syntax, notation, axiom, sorry.
-/
import Derived.Test.Qxb6623305aChecked
import GoSem.Claim
import GoSem.ClaimJoined
import GoSem.ClaimMapViews
import Derived.JoinedTies
import Derived.KernelRfl
namespace Go.Proofs.Qxb6623305a
/- THE CELL 'sum', in the pinned program and in every row, IS THE sha256 OF THE DUMP (.gsa) THAT Qxb6623305aProg.lean LOADS. Nothing in Lean hashes anything: it is a label: what it is worth is what the hold of that sum in a sandbox is worth. -/
noncomputable def Try.pinned : Pinned := { name := "qxb6623305a", sum := "d404272fa01c815d63bc2c54ff951056ed233f993051d05c787752a4ddef91d0", checked := Try.checked }
namespace Rows
def none {H : Type} : Left H := { results := [], args := [] }

/-- 'zzlaws_resources_b1.FnBitReassemblesItsByte': WHATEVER THE INPUT: true; the input reads as it did. -/
def fnBitReassemblesItsByteSpec : ChangeSpec := { name := "fnBitReassemblesItsByte", fn := fun _ => fun
  | [d1, d2] => { results := [.lit (.bool true)], args := [d1, d2] }
  | _ => none }
def fnBitReassemblesItsByteRow : OpenClaim := { program := "qxb6623305a", sum := "d404272fa01c815d63bc2c54ff951056ed233f993051d05c787752a4ddef91d0", func := "example.com/issuant/issuant/zzlaws_resources_b1.FnBitReassemblesItsByte", spec := "fnBitReassemblesItsByte", apart := false }
def FnBitReassemblesItsByteSaid : Prop := fnBitReassemblesItsByteRow.holds Try.pinned (OpenSpec.ofChange fnBitReassemblesItsByteSpec)

/-- ITS FALSE NEIGHBOUR: 'it returns false'. Refute it at one input. -/
def fnBitReassemblesItsByteWrong : ChangeSpec := { name := "fnBitReassemblesItsByte", fn := fun _ => fun
  | [d1, d2] => { results := [.lit (.bool false)], args := [d1, d2] }
  | _ => none }
def FnBitReassemblesItsByteWrongFalsely : Prop := fnBitReassemblesItsByteRow.holds Try.pinned (OpenSpec.ofChange fnBitReassemblesItsByteWrong)

end Rows
end Go.Proofs.Qxb6623305a
