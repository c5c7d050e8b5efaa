/-
  No cell of these rows narrows 'for every input' (looked for: loops, veiled, ifaces, maps, wideKeys, modest, calm, conditions, laid).
  DERIVED. THE GIVEN ROWS OF THIS SEAT. 4 by the template 'for every input the law returns true; each argument reads behind the call as it read before'; 0 by the template 'total and deterministic' (their statements: Qxb6003734aTotals.lean).
  GIVEN WITH THE SEED: the statements are not yours to turn. If you find one false, say at which input.
  Laid BY PROGRAM, IN A SANDBOX (cutbox-rows.mjs): the forced cells as the released guide's own fill.sh prints them over the translation 4f38236f1d89d481… (all of the seat's roots in one cut). By AI agents, Wed Nov 11 2026. No macro, syntax, notation, axiom, sorry.
-/
import Derived.Test.Qxb6003734aChecked
import GoSem.Claim
import GoSem.ClaimJoined
import GoSem.ClaimMapViews
import Derived.JoinedTies
import Derived.KernelRfl
namespace Go.Proofs.Qxb6003734a
/- THE CELL 'sum', in the pinned program and in every row, IS THE sha256 OF THE DUMP (.gsa) THAT Qxb6003734aProg.lean LOADS. Nothing in Lean hashes anything: it is a label: what it is worth is what the hold of that sum in a sandbox is worth. -/
noncomputable def Try.pinned : Pinned := { name := "qxb6003734a", sum := "4f38236f1d89d4810f2ec3f3c667d453e29ecc489d31c6ad22df044843f1525a", checked := Try.checked }
namespace Rows
def none {H : Type} : Left H := { results := [], args := [] }

/-- 'zzlaws_internal_engine_g2.FnKeptAnswerBinaryReadsBack': WHATEVER THE INPUT: true; the input reads as it did. -/
def fnKeptAnswerBinaryReadsBackSpec : ChangeSpec := { name := "fnKeptAnswerBinaryReadsBack", fn := fun _ => fun
  | [d1, d2, d3, d4, d5] => { results := [.lit (.bool true)], args := [d1, d2, d3, d4, d5] }
  | _ => none }
def fnKeptAnswerBinaryReadsBackRow : OpenClaim := { program := "qxb6003734a", sum := "4f38236f1d89d4810f2ec3f3c667d453e29ecc489d31c6ad22df044843f1525a", func := "example.com/tenure/tenure/zzlaws_internal_engine_g2.FnKeptAnswerBinaryReadsBack", spec := "fnKeptAnswerBinaryReadsBack", apart := false }
def FnKeptAnswerBinaryReadsBackSaid : Prop := fnKeptAnswerBinaryReadsBackRow.holds Try.pinned (OpenSpec.ofChange fnKeptAnswerBinaryReadsBackSpec)

/-- ITS FALSE NEIGHBOUR: 'it returns false'. Refute it at one input. -/
def fnKeptAnswerBinaryReadsBackWrong : ChangeSpec := { name := "fnKeptAnswerBinaryReadsBack", fn := fun _ => fun
  | [d1, d2, d3, d4, d5] => { results := [.lit (.bool false)], args := [d1, d2, d3, d4, d5] }
  | _ => none }
def FnKeptAnswerBinaryReadsBackWrongFalsely : Prop := fnKeptAnswerBinaryReadsBackRow.holds Try.pinned (OpenSpec.ofChange fnKeptAnswerBinaryReadsBackWrong)

/-- 'zzlaws_internal_engine_g2.FnArenaTimesStayPut': WHATEVER THE INPUT: true; the input reads as it did. -/
def fnArenaTimesStayPutSpec : ChangeSpec := { name := "fnArenaTimesStayPut", fn := fun _ => fun
  | [d1, d2] => { results := [.lit (.bool true)], args := [d1, d2] }
  | _ => none }
def fnArenaTimesStayPutRow : OpenClaim := { program := "qxb6003734a", sum := "4f38236f1d89d4810f2ec3f3c667d453e29ecc489d31c6ad22df044843f1525a", func := "example.com/tenure/tenure/zzlaws_internal_engine_g2.FnArenaTimesStayPut", spec := "fnArenaTimesStayPut", apart := false }
def FnArenaTimesStayPutSaid : Prop := fnArenaTimesStayPutRow.holds Try.pinned (OpenSpec.ofChange fnArenaTimesStayPutSpec)

/-- ITS FALSE NEIGHBOUR: 'it returns false'. Refute it at one input. -/
def fnArenaTimesStayPutWrong : ChangeSpec := { name := "fnArenaTimesStayPut", fn := fun _ => fun
  | [d1, d2] => { results := [.lit (.bool false)], args := [d1, d2] }
  | _ => none }
def FnArenaTimesStayPutWrongFalsely : Prop := fnArenaTimesStayPutRow.holds Try.pinned (OpenSpec.ofChange fnArenaTimesStayPutWrong)

/-- 'zzlaws_internal_engine_g2.FnAppendEventSnapshotsEachChange': WHATEVER THE INPUT: true; the input reads as it did. -/
def fnAppendEventSnapshotsEachChangeSpec : ChangeSpec := { name := "fnAppendEventSnapshotsEachChange", fn := fun _ => fun
  | [d1, d2, d3, d4, d5, d6, d7] => { results := [.lit (.bool true)], args := [d1, d2, d3, d4, d5, d6, d7] }
  | _ => none }
def fnAppendEventSnapshotsEachChangeRow : OpenClaim := { program := "qxb6003734a", sum := "4f38236f1d89d4810f2ec3f3c667d453e29ecc489d31c6ad22df044843f1525a", func := "example.com/tenure/tenure/zzlaws_internal_engine_g2.FnAppendEventSnapshotsEachChange", spec := "fnAppendEventSnapshotsEachChange", apart := false }
def FnAppendEventSnapshotsEachChangeSaid : Prop := fnAppendEventSnapshotsEachChangeRow.holds Try.pinned (OpenSpec.ofChange fnAppendEventSnapshotsEachChangeSpec)

/-- ITS FALSE NEIGHBOUR: 'it returns false'. Refute it at one input. -/
def fnAppendEventSnapshotsEachChangeWrong : ChangeSpec := { name := "fnAppendEventSnapshotsEachChange", fn := fun _ => fun
  | [d1, d2, d3, d4, d5, d6, d7] => { results := [.lit (.bool false)], args := [d1, d2, d3, d4, d5, d6, d7] }
  | _ => none }
def FnAppendEventSnapshotsEachChangeWrongFalsely : Prop := fnAppendEventSnapshotsEachChangeRow.holds Try.pinned (OpenSpec.ofChange fnAppendEventSnapshotsEachChangeWrong)

/-- 'zzlaws_internal_engine_g2.FnAppendEventKeepsPendingOrMakesItNew': WHATEVER THE INPUT: true; the input reads as it did. -/
def fnAppendEventKeepsPendingOrMakesItNewSpec : ChangeSpec := { name := "fnAppendEventKeepsPendingOrMakesItNew", fn := fun _ => fun
  | [d1, d2, d3, d4, d5, d6] => { results := [.lit (.bool true)], args := [d1, d2, d3, d4, d5, d6] }
  | _ => none }
def fnAppendEventKeepsPendingOrMakesItNewRow : OpenClaim := { program := "qxb6003734a", sum := "4f38236f1d89d4810f2ec3f3c667d453e29ecc489d31c6ad22df044843f1525a", func := "example.com/tenure/tenure/zzlaws_internal_engine_g2.FnAppendEventKeepsPendingOrMakesItNew", spec := "fnAppendEventKeepsPendingOrMakesItNew", apart := false }
def FnAppendEventKeepsPendingOrMakesItNewSaid : Prop := fnAppendEventKeepsPendingOrMakesItNewRow.holds Try.pinned (OpenSpec.ofChange fnAppendEventKeepsPendingOrMakesItNewSpec)

/-- ITS FALSE NEIGHBOUR: 'it returns false'. Refute it at one input. -/
def fnAppendEventKeepsPendingOrMakesItNewWrong : ChangeSpec := { name := "fnAppendEventKeepsPendingOrMakesItNew", fn := fun _ => fun
  | [d1, d2, d3, d4, d5, d6] => { results := [.lit (.bool false)], args := [d1, d2, d3, d4, d5, d6] }
  | _ => none }
def FnAppendEventKeepsPendingOrMakesItNewWrongFalsely : Prop := fnAppendEventKeepsPendingOrMakesItNewRow.holds Try.pinned (OpenSpec.ofChange fnAppendEventKeepsPendingOrMakesItNewWrong)

end Rows
end Go.Proofs.Qxb6003734a
