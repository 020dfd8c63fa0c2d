/-
  No cell of these rows narrows 'for every input' (looked for: loops, veiled, ifaces, maps, wideKeys, modest, calm, conditions, laid).
  DERIVED. THE GIVEN ROWS OF THIS SEAT. 2 by the template 'for every input the law returns true; each argument reads behind the call as it read before'; 0 by the template 'total and deterministic' (their statements: Qxb6623281aTotals.lean).
  GIVEN WITH THE SEED: the statements are not yours to turn. If you find one false, say at which input.
  Laid BY PROGRAM, IN A SANDBOX (cutbox-rows.mjs): the forced cells as the released guide's own fill.sh prints them over the translation 44f31967c5c33d3a… (all of the seat's roots in one cut). By AI agents, Wed Nov 11 2026. No macro, syntax, notation, axiom, sorry.
-/
import Derived.Test.Qxb6623281aChecked
import GoSem.Claim
import GoSem.ClaimJoined
import GoSem.ClaimMapViews
import Derived.JoinedTies
import Derived.KernelRfl
namespace Go.Proofs.Qxb6623281a
/- THE CELL 'sum', in the pinned program and in every row, IS THE sha256 OF THE DUMP (.gsa) THAT Qxb6623281aProg.lean LOADS. Nothing in Lean hashes anything: it is a label: what it is worth is what the hold of that sum in a sandbox is worth. -/
noncomputable def Try.pinned : Pinned := { name := "qxb6623281a", sum := "44f31967c5c33d3a75de39345e65c58e153946856d228b2b35a8e40459987b3e", checked := Try.checked }
namespace Rows
def none {H : Type} : Left H := { results := [], args := [] }

/-- 'zzlaws_internal_jsondepth_b1.FnDepthMatchesBackslashRuns': WHATEVER THE INPUT: true; the input reads as it did. -/
def fnDepthMatchesBackslashRunsSpec : ChangeSpec := { name := "fnDepthMatchesBackslashRuns", fn := fun _ => fun
  | [d] => { results := [.lit (.bool true)], args := [d] }
  | _ => none }
def fnDepthMatchesBackslashRunsRow : OpenClaim := { program := "qxb6623281a", sum := "44f31967c5c33d3a75de39345e65c58e153946856d228b2b35a8e40459987b3e", func := "example.com/wyrd/wyrd/zzlaws_internal_jsondepth_b1.FnDepthMatchesBackslashRuns", spec := "fnDepthMatchesBackslashRuns", apart := false }
def FnDepthMatchesBackslashRunsSaid : Prop := fnDepthMatchesBackslashRunsRow.holds Try.pinned (OpenSpec.ofChange fnDepthMatchesBackslashRunsSpec)

/-- ITS FALSE NEIGHBOUR: 'it returns false'. Refute it at one input. -/
def fnDepthMatchesBackslashRunsWrong : ChangeSpec := { name := "fnDepthMatchesBackslashRuns", fn := fun _ => fun
  | [d] => { results := [.lit (.bool false)], args := [d] }
  | _ => none }
def FnDepthMatchesBackslashRunsWrongFalsely : Prop := fnDepthMatchesBackslashRunsRow.holds Try.pinned (OpenSpec.ofChange fnDepthMatchesBackslashRunsWrong)

/-- 'zzlaws_internal_jsondepth_b1.FnDepthSplitsAfterQuoteFreePrefix': WHATEVER THE INPUT: true; the input reads as it did. -/
def fnDepthSplitsAfterQuoteFreePrefixSpec : ChangeSpec := { name := "fnDepthSplitsAfterQuoteFreePrefix", fn := fun _ => fun
  | [d1, d2] => { results := [.lit (.bool true)], args := [d1, d2] }
  | _ => none }
def fnDepthSplitsAfterQuoteFreePrefixRow : OpenClaim := { program := "qxb6623281a", sum := "44f31967c5c33d3a75de39345e65c58e153946856d228b2b35a8e40459987b3e", func := "example.com/wyrd/wyrd/zzlaws_internal_jsondepth_b1.FnDepthSplitsAfterQuoteFreePrefix", spec := "fnDepthSplitsAfterQuoteFreePrefix", apart := false }
def FnDepthSplitsAfterQuoteFreePrefixSaid : Prop := fnDepthSplitsAfterQuoteFreePrefixRow.holds Try.pinned (OpenSpec.ofChange fnDepthSplitsAfterQuoteFreePrefixSpec)

/-- ITS FALSE NEIGHBOUR: 'it returns false'. Refute it at one input. -/
def fnDepthSplitsAfterQuoteFreePrefixWrong : ChangeSpec := { name := "fnDepthSplitsAfterQuoteFreePrefix", fn := fun _ => fun
  | [d1, d2] => { results := [.lit (.bool false)], args := [d1, d2] }
  | _ => none }
def FnDepthSplitsAfterQuoteFreePrefixWrongFalsely : Prop := fnDepthSplitsAfterQuoteFreePrefixRow.holds Try.pinned (OpenSpec.ofChange fnDepthSplitsAfterQuoteFreePrefixWrong)

end Rows
end Go.Proofs.Qxb6623281a
