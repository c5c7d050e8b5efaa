/-
  No cell of these rows narrows 'for every input' (looked for: loops, veiled, ifaces, maps, wideKeys, modest, calm, conditions, laid).
  DERIVED. THE GIVEN ROWS OF THIS SEAT. 4 by the template 'for every input the law returns true; each argument reads behind the call as it read before'; 0 by the template 'total and deterministic' (their statements: Qxb6003733aTotals.lean).
  GIVEN WITH THE SEED: the statements are not yours to turn. If you find one false, say at which input.
  Laid BY PROGRAM, IN A SANDBOX (cutbox-rows.mjs): the forced cells as the released guide's own fill.sh prints them over the translation 8ccaad27f217190e… (all of the seat's roots in one cut). By AI agents, Wed Nov 11 2026. No macro, syntax, notation, axiom, sorry.
-/
import Derived.Test.Qxb6003733aChecked
import GoSem.Claim
import GoSem.ClaimJoined
import GoSem.ClaimMapViews
import Derived.JoinedTies
import Derived.KernelRfl
namespace Go.Proofs.Qxb6003733a
/- THE CELL 'sum', in the pinned program and in every row, IS THE sha256 OF THE DUMP (.gsa) THAT Qxb6003733aProg.lean LOADS. Nothing in Lean hashes anything: it is a label: what it is worth is what the hold of that sum in a sandbox is worth. -/
noncomputable def Try.pinned : Pinned := { name := "qxb6003733a", sum := "8ccaad27f217190e8420d7130e935f31ecf26bdee1e8708a8fc7e3efe2d57785", checked := Try.checked }
namespace Rows
def none {H : Type} : Left H := { results := [], args := [] }

/-- 'zzlaws_internal_engine_g2.FnDueEntryBeforeIsStrictTotalOrder': WHATEVER THE INPUT: true; the input reads as it did. -/
def fnDueEntryBeforeIsStrictTotalOrderSpec : ChangeSpec := { name := "fnDueEntryBeforeIsStrictTotalOrder", fn := fun _ => fun
  | [d1, d2, d3, d4, d5, d6, d7, d8, d9] => { results := [.lit (.bool true)], args := [d1, d2, d3, d4, d5, d6, d7, d8, d9] }
  | _ => none }
def fnDueEntryBeforeIsStrictTotalOrderRow : OpenClaim := { program := "qxb6003733a", sum := "8ccaad27f217190e8420d7130e935f31ecf26bdee1e8708a8fc7e3efe2d57785", func := "example.com/tenure/tenure/zzlaws_internal_engine_g2.FnDueEntryBeforeIsStrictTotalOrder", spec := "fnDueEntryBeforeIsStrictTotalOrder", apart := false }
def FnDueEntryBeforeIsStrictTotalOrderSaid : Prop := fnDueEntryBeforeIsStrictTotalOrderRow.holds Try.pinned (OpenSpec.ofChange fnDueEntryBeforeIsStrictTotalOrderSpec)

/-- ITS FALSE NEIGHBOUR: 'it returns false'. Refute it at one input. -/
def fnDueEntryBeforeIsStrictTotalOrderWrong : ChangeSpec := { name := "fnDueEntryBeforeIsStrictTotalOrder", fn := fun _ => fun
  | [d1, d2, d3, d4, d5, d6, d7, d8, d9] => { results := [.lit (.bool false)], args := [d1, d2, d3, d4, d5, d6, d7, d8, d9] }
  | _ => none }
def FnDueEntryBeforeIsStrictTotalOrderWrongFalsely : Prop := fnDueEntryBeforeIsStrictTotalOrderRow.holds Try.pinned (OpenSpec.ofChange fnDueEntryBeforeIsStrictTotalOrderWrong)

/-- 'zzlaws_internal_engine_g2.FnAppendEventIDReadsBack': WHATEVER THE INPUT: true; the input reads as it did. -/
def fnAppendEventIDReadsBackSpec : ChangeSpec := { name := "fnAppendEventIDReadsBack", fn := fun _ => fun
  | [d1, d2, d3] => { results := [.lit (.bool true)], args := [d1, d2, d3] }
  | _ => none }
def fnAppendEventIDReadsBackRow : OpenClaim := { program := "qxb6003733a", sum := "8ccaad27f217190e8420d7130e935f31ecf26bdee1e8708a8fc7e3efe2d57785", func := "example.com/tenure/tenure/zzlaws_internal_engine_g2.FnAppendEventIDReadsBack", spec := "fnAppendEventIDReadsBack", apart := false }
def FnAppendEventIDReadsBackSaid : Prop := fnAppendEventIDReadsBackRow.holds Try.pinned (OpenSpec.ofChange fnAppendEventIDReadsBackSpec)

/-- ITS FALSE NEIGHBOUR: 'it returns false'. Refute it at one input. -/
def fnAppendEventIDReadsBackWrong : ChangeSpec := { name := "fnAppendEventIDReadsBack", fn := fun _ => fun
  | [d1, d2, d3] => { results := [.lit (.bool false)], args := [d1, d2, d3] }
  | _ => none }
def FnAppendEventIDReadsBackWrongFalsely : Prop := fnAppendEventIDReadsBackRow.holds Try.pinned (OpenSpec.ofChange fnAppendEventIDReadsBackWrong)

/-- 'zzlaws_internal_engine_g2.FnEventIDsEqualExactlyForSameSubAndSeq': WHATEVER THE INPUT: true; the input reads as it did. -/
def fnEventIDsEqualExactlyForSameSubAndSeqSpec : ChangeSpec := { name := "fnEventIDsEqualExactlyForSameSubAndSeq", fn := fun _ => fun
  | [d1, d2, d3, d4] => { results := [.lit (.bool true)], args := [d1, d2, d3, d4] }
  | _ => none }
def fnEventIDsEqualExactlyForSameSubAndSeqRow : OpenClaim := { program := "qxb6003733a", sum := "8ccaad27f217190e8420d7130e935f31ecf26bdee1e8708a8fc7e3efe2d57785", func := "example.com/tenure/tenure/zzlaws_internal_engine_g2.FnEventIDsEqualExactlyForSameSubAndSeq", spec := "fnEventIDsEqualExactlyForSameSubAndSeq", apart := false }
def FnEventIDsEqualExactlyForSameSubAndSeqSaid : Prop := fnEventIDsEqualExactlyForSameSubAndSeqRow.holds Try.pinned (OpenSpec.ofChange fnEventIDsEqualExactlyForSameSubAndSeqSpec)

/-- ITS FALSE NEIGHBOUR: 'it returns false'. Refute it at one input. -/
def fnEventIDsEqualExactlyForSameSubAndSeqWrong : ChangeSpec := { name := "fnEventIDsEqualExactlyForSameSubAndSeq", fn := fun _ => fun
  | [d1, d2, d3, d4] => { results := [.lit (.bool false)], args := [d1, d2, d3, d4] }
  | _ => none }
def FnEventIDsEqualExactlyForSameSubAndSeqWrongFalsely : Prop := fnEventIDsEqualExactlyForSameSubAndSeqRow.holds Try.pinned (OpenSpec.ofChange fnEventIDsEqualExactlyForSameSubAndSeqWrong)

/-- 'zzlaws_internal_engine_g2.FnDueEntryOrderFollowsTimeThenAge': WHATEVER THE INPUT: true; the input reads as it did. -/
def fnDueEntryOrderFollowsTimeThenAgeSpec : ChangeSpec := { name := "fnDueEntryOrderFollowsTimeThenAge", fn := fun _ => fun
  | [d1, d2, d3, d4] => { results := [.lit (.bool true)], args := [d1, d2, d3, d4] }
  | _ => none }
def fnDueEntryOrderFollowsTimeThenAgeRow : OpenClaim := { program := "qxb6003733a", sum := "8ccaad27f217190e8420d7130e935f31ecf26bdee1e8708a8fc7e3efe2d57785", func := "example.com/tenure/tenure/zzlaws_internal_engine_g2.FnDueEntryOrderFollowsTimeThenAge", spec := "fnDueEntryOrderFollowsTimeThenAge", apart := false }
def FnDueEntryOrderFollowsTimeThenAgeSaid : Prop := fnDueEntryOrderFollowsTimeThenAgeRow.holds Try.pinned (OpenSpec.ofChange fnDueEntryOrderFollowsTimeThenAgeSpec)

/-- ITS FALSE NEIGHBOUR: 'it returns false'. Refute it at one input. -/
def fnDueEntryOrderFollowsTimeThenAgeWrong : ChangeSpec := { name := "fnDueEntryOrderFollowsTimeThenAge", fn := fun _ => fun
  | [d1, d2, d3, d4] => { results := [.lit (.bool false)], args := [d1, d2, d3, d4] }
  | _ => none }
def FnDueEntryOrderFollowsTimeThenAgeWrongFalsely : Prop := fnDueEntryOrderFollowsTimeThenAgeRow.holds Try.pinned (OpenSpec.ofChange fnDueEntryOrderFollowsTimeThenAgeWrong)

end Rows
end Go.Proofs.Qxb6003733a
