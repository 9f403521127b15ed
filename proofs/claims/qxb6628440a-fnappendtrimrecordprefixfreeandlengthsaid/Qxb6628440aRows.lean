/-
  No cell of these rows narrows 'for every input' (looked for: loops, veiled, ifaces, maps, wideKeys, modest, calm, conditions, laid).
  DERIVED. THE GIVEN ROWS OF THIS SEAT. 2 by the template 'for every input the law returns true; each argument reads behind the call as it read before'; 0 by the template 'total and deterministic' (their statements: Qxb6628440aTotals.lean).
  GIVEN WITH THE SEED: the statements are not yours to turn. If you find one false, say at which input.
  Laid BY PROGRAM, IN A SANDBOX (cutbox-rows.mjs): the forced cells as the released guide's own fill.sh prints them over the translation 985e005cbeabdcf9… (all of the seat's roots in one cut). By AI agents, Wed Nov 11 2026. No macro, syntax, notation, axiom, sorry.
-/
import Derived.Test.Qxb6628440aChecked
import GoSem.Claim
import GoSem.ClaimJoined
import GoSem.ClaimMapViews
import Derived.JoinedTies
import Derived.KernelRfl
namespace Go.Proofs.Qxb6628440a
/- THE CELL 'sum', in the pinned program and in every row, IS THE sha256 OF THE DUMP (.gsa) THAT Qxb6628440aProg.lean LOADS. Nothing in Lean hashes anything: it is a label: what it is worth is what the hold of that sum in a sandbox is worth. -/
noncomputable def Try.pinned : Pinned := { name := "qxb6628440a", sum := "985e005cbeabdcf96fc100f1051fe392df0e4a5977a8e10b575457666ba181ad", checked := Try.checked }
namespace Rows
def none {H : Type} : Left H := { results := [], args := [] }

/-- 'zzlaws_internal_raft_b1.FnAppendTrimRecordDecodesBack': WHATEVER THE INPUT: true; the input reads as it did. -/
def fnAppendTrimRecordDecodesBackSpec : ChangeSpec := { name := "fnAppendTrimRecordDecodesBack", fn := fun _ => fun
  | [d1, d2, d3, d4, d5, d6, d7, d8] => { results := [.lit (.bool true)], args := [d1, d2, d3, d4, d5, d6, d7, d8] }
  | _ => none }
def fnAppendTrimRecordDecodesBackRow : OpenClaim := { program := "qxb6628440a", sum := "985e005cbeabdcf96fc100f1051fe392df0e4a5977a8e10b575457666ba181ad", func := "example.com/holdfast/holdfast/zzlaws_internal_raft_b1.FnAppendTrimRecordDecodesBack", spec := "fnAppendTrimRecordDecodesBack", apart := false }
def FnAppendTrimRecordDecodesBackSaid : Prop := fnAppendTrimRecordDecodesBackRow.holds Try.pinned (OpenSpec.ofChange fnAppendTrimRecordDecodesBackSpec)

/-- ITS FALSE NEIGHBOUR: 'it returns false'. Refute it at one input. -/
def fnAppendTrimRecordDecodesBackWrong : ChangeSpec := { name := "fnAppendTrimRecordDecodesBack", fn := fun _ => fun
  | [d1, d2, d3, d4, d5, d6, d7, d8] => { results := [.lit (.bool false)], args := [d1, d2, d3, d4, d5, d6, d7, d8] }
  | _ => none }
def FnAppendTrimRecordDecodesBackWrongFalsely : Prop := fnAppendTrimRecordDecodesBackRow.holds Try.pinned (OpenSpec.ofChange fnAppendTrimRecordDecodesBackWrong)

/-- 'zzlaws_internal_raft_b1.FnAppendTrimRecordPrefixFreeAndLength': WHATEVER THE INPUT: true; the input reads as it did. -/
def fnAppendTrimRecordPrefixFreeAndLengthSpec : ChangeSpec := { name := "fnAppendTrimRecordPrefixFreeAndLength", fn := fun _ => fun
  | [d1, d2, d3, d4, d5, d6, d7, d8] => { results := [.lit (.bool true)], args := [d1, d2, d3, d4, d5, d6, d7, d8] }
  | _ => none }
def fnAppendTrimRecordPrefixFreeAndLengthRow : OpenClaim := { program := "qxb6628440a", sum := "985e005cbeabdcf96fc100f1051fe392df0e4a5977a8e10b575457666ba181ad", func := "example.com/holdfast/holdfast/zzlaws_internal_raft_b1.FnAppendTrimRecordPrefixFreeAndLength", spec := "fnAppendTrimRecordPrefixFreeAndLength", apart := false }
def FnAppendTrimRecordPrefixFreeAndLengthSaid : Prop := fnAppendTrimRecordPrefixFreeAndLengthRow.holds Try.pinned (OpenSpec.ofChange fnAppendTrimRecordPrefixFreeAndLengthSpec)

/-- ITS FALSE NEIGHBOUR: 'it returns false'. Refute it at one input. -/
def fnAppendTrimRecordPrefixFreeAndLengthWrong : ChangeSpec := { name := "fnAppendTrimRecordPrefixFreeAndLength", fn := fun _ => fun
  | [d1, d2, d3, d4, d5, d6, d7, d8] => { results := [.lit (.bool false)], args := [d1, d2, d3, d4, d5, d6, d7, d8] }
  | _ => none }
def FnAppendTrimRecordPrefixFreeAndLengthWrongFalsely : Prop := fnAppendTrimRecordPrefixFreeAndLengthRow.holds Try.pinned (OpenSpec.ofChange fnAppendTrimRecordPrefixFreeAndLengthWrong)

end Rows
end Go.Proofs.Qxb6628440a
