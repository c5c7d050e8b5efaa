/-
  No cell of these rows narrows 'for every input' (looked for: loops, veiled, ifaces, maps, wideKeys, modest, calm, conditions, laid).
  DERIVED. THE GIVEN ROWS OF THIS SEAT. 4 by the template 'for every input the law returns true; each argument reads behind the call as it read before'; 0 by the template 'total and deterministic' (their statements: Qxb6003772aTotals.lean).
  GIVEN WITH THE SEED: the statements are not yours to turn. If you find one false, say at which input.
  Laid BY PROGRAM, IN A SANDBOX (cutbox-rows.mjs): the forced cells as the released guide's own fill.sh prints them over the translation 499163fb6953a8f8… (all of the seat's roots in one cut). By AI agents, Wed Nov 11 2026. No macro, syntax, notation, axiom, sorry.
-/
import Derived.Test.Qxb6003772aChecked
import GoSem.Claim
import GoSem.ClaimJoined
import GoSem.ClaimMapViews
import Derived.JoinedTies
import Derived.KernelRfl
namespace Go.Proofs.Qxb6003772a
/- THE CELL 'sum', in the pinned program and in every row, IS THE sha256 OF THE DUMP (.gsa) THAT Qxb6003772aProg.lean LOADS. Nothing in Lean hashes anything: it is a label: what it is worth is what the hold of that sum in a sandbox is worth. -/
noncomputable def Try.pinned : Pinned := { name := "qxb6003772a", sum := "499163fb6953a8f8a780149707f4d69b523d1bfb82f1d9bfd868804526279bd4", checked := Try.checked }
namespace Rows
def none {H : Type} : Left H := { results := [], args := [] }

/-- 'zzlaws_internal_angle_g1.FnEscapedLineResolvesToItself': WHATEVER THE INPUT: true; the input reads as it did. -/
def fnEscapedLineResolvesToItselfSpec : ChangeSpec := { name := "fnEscapedLineResolvesToItself", fn := fun _ => fun
  | [d] => { results := [.lit (.bool true)], args := [d] }
  | _ => none }
def fnEscapedLineResolvesToItselfRow : OpenClaim := { program := "qxb6003772a", sum := "499163fb6953a8f8a780149707f4d69b523d1bfb82f1d9bfd868804526279bd4", func := "example.com/exact-tangle/exact-tangle/zzlaws_internal_angle_g1.FnEscapedLineResolvesToItself", spec := "fnEscapedLineResolvesToItself", inPlace := ["internal/bytealg.IndexByte"], apart := false }
def FnEscapedLineResolvesToItselfSaid : Prop := fnEscapedLineResolvesToItselfRow.holds Try.pinned (OpenSpec.ofChange fnEscapedLineResolvesToItselfSpec)

/-- ITS FALSE NEIGHBOUR: 'it returns false'. Refute it at one input. -/
def fnEscapedLineResolvesToItselfWrong : ChangeSpec := { name := "fnEscapedLineResolvesToItself", fn := fun _ => fun
  | [d] => { results := [.lit (.bool false)], args := [d] }
  | _ => none }
def FnEscapedLineResolvesToItselfWrongFalsely : Prop := fnEscapedLineResolvesToItselfRow.holds Try.pinned (OpenSpec.ofChange fnEscapedLineResolvesToItselfWrong)

/-- 'zzlaws_internal_angle_g1.FnHeaderLineYieldsItsName': WHATEVER THE INPUT: true; the input reads as it did. -/
def fnHeaderLineYieldsItsNameSpec : ChangeSpec := { name := "fnHeaderLineYieldsItsName", fn := fun _ => fun
  | [d1, d2] => { results := [.lit (.bool true)], args := [d1, d2] }
  | _ => none }
def fnHeaderLineYieldsItsNameRow : OpenClaim := { program := "qxb6003772a", sum := "499163fb6953a8f8a780149707f4d69b523d1bfb82f1d9bfd868804526279bd4", func := "example.com/exact-tangle/exact-tangle/zzlaws_internal_angle_g1.FnHeaderLineYieldsItsName", spec := "fnHeaderLineYieldsItsName", inPlace := ["internal/bytealg.IndexByte"], apart := false }
def FnHeaderLineYieldsItsNameSaid : Prop := fnHeaderLineYieldsItsNameRow.holds Try.pinned (OpenSpec.ofChange fnHeaderLineYieldsItsNameSpec)

/-- ITS FALSE NEIGHBOUR: 'it returns false'. Refute it at one input. -/
def fnHeaderLineYieldsItsNameWrong : ChangeSpec := { name := "fnHeaderLineYieldsItsName", fn := fun _ => fun
  | [d1, d2] => { results := [.lit (.bool false)], args := [d1, d2] }
  | _ => none }
def FnHeaderLineYieldsItsNameWrongFalsely : Prop := fnHeaderLineYieldsItsNameRow.holds Try.pinned (OpenSpec.ofChange fnHeaderLineYieldsItsNameWrong)

/-- 'zzlaws_internal_angle_g1.FnGrowGathersResolvedLines': WHATEVER THE INPUT: true; the input reads as it did. -/
def fnGrowGathersResolvedLinesSpec : ChangeSpec := { name := "fnGrowGathersResolvedLines", fn := fun _ => fun
  | [d] => { results := [.lit (.bool true)], args := [d] }
  | _ => none }
def fnGrowGathersResolvedLinesRow : OpenClaim := { program := "qxb6003772a", sum := "499163fb6953a8f8a780149707f4d69b523d1bfb82f1d9bfd868804526279bd4", func := "example.com/exact-tangle/exact-tangle/zzlaws_internal_angle_g1.FnGrowGathersResolvedLines", spec := "fnGrowGathersResolvedLines", inPlace := ["internal/bytealg.IndexByte"], apart := false }
def FnGrowGathersResolvedLinesSaid : Prop := fnGrowGathersResolvedLinesRow.holds Try.pinned (OpenSpec.ofChange fnGrowGathersResolvedLinesSpec)

/-- ITS FALSE NEIGHBOUR: 'it returns false'. Refute it at one input. -/
def fnGrowGathersResolvedLinesWrong : ChangeSpec := { name := "fnGrowGathersResolvedLines", fn := fun _ => fun
  | [d] => { results := [.lit (.bool false)], args := [d] }
  | _ => none }
def FnGrowGathersResolvedLinesWrongFalsely : Prop := fnGrowGathersResolvedLinesRow.holds Try.pinned (OpenSpec.ofChange fnGrowGathersResolvedLinesWrong)

/-- 'zzlaws_internal_angle_g1.FnDocumentationIgnoresLineEnd': WHATEVER THE INPUT: true; the input reads as it did. -/
def fnDocumentationIgnoresLineEndSpec : ChangeSpec := { name := "fnDocumentationIgnoresLineEnd", fn := fun _ => fun
  | [d] => { results := [.lit (.bool true)], args := [d] }
  | _ => none }
def fnDocumentationIgnoresLineEndRow : OpenClaim := { program := "qxb6003772a", sum := "499163fb6953a8f8a780149707f4d69b523d1bfb82f1d9bfd868804526279bd4", func := "example.com/exact-tangle/exact-tangle/zzlaws_internal_angle_g1.FnDocumentationIgnoresLineEnd", spec := "fnDocumentationIgnoresLineEnd", apart := false }
def FnDocumentationIgnoresLineEndSaid : Prop := fnDocumentationIgnoresLineEndRow.holds Try.pinned (OpenSpec.ofChange fnDocumentationIgnoresLineEndSpec)

/-- ITS FALSE NEIGHBOUR: 'it returns false'. Refute it at one input. -/
def fnDocumentationIgnoresLineEndWrong : ChangeSpec := { name := "fnDocumentationIgnoresLineEnd", fn := fun _ => fun
  | [d] => { results := [.lit (.bool false)], args := [d] }
  | _ => none }
def FnDocumentationIgnoresLineEndWrongFalsely : Prop := fnDocumentationIgnoresLineEndRow.holds Try.pinned (OpenSpec.ofChange fnDocumentationIgnoresLineEndWrong)

end Rows
end Go.Proofs.Qxb6003772a
