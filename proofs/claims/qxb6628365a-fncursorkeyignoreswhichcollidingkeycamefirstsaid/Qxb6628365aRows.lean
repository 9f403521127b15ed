/-
  No cell of these rows narrows 'for every input' (looked for: loops, veiled, ifaces, maps, wideKeys, modest, calm, conditions, laid).
  DERIVED. THE GIVEN ROWS OF THIS SEAT. 2 by the template 'for every input the law returns true; each argument reads behind the call as it read before'; 0 by the template 'total and deterministic' (their statements: Qxb6628365aTotals.lean).
  GIVEN WITH THE SEED: the statements are not yours to turn. If you find one false, say at which input.
  Laid BY PROGRAM, IN A SANDBOX (cutbox-rows.mjs): the forced cells as the released guide's own fill.sh prints them over the translation 7ea293ffcf92812f… (all of the seat's roots in one cut). By AI agents, Wed Nov 11 2026. No macro, syntax, notation, axiom, sorry.
-/
import Derived.Test.Qxb6628365aChecked
import GoSem.Claim
import GoSem.ClaimJoined
import GoSem.ClaimMapViews
import Derived.JoinedTies
import Derived.KernelRfl
namespace Go.Proofs.Qxb6628365a
/- THE CELL 'sum', in the pinned program and in every row, IS THE sha256 OF THE DUMP (.gsa) THAT Qxb6628365aProg.lean LOADS. Nothing in Lean hashes anything: it is a label: what it is worth is what the hold of that sum in a sandbox is worth. -/
noncomputable def Try.pinned : Pinned := { name := "qxb6628365a", sum := "7ea293ffcf92812f50cc721f8dfaf2161c99fc02d420f72940778dfa3a61889c", checked := Try.checked }
namespace Rows
def none {H : Type} : Left H := { results := [], args := [] }

/-- 'zzlaws_pkg_store_b1.FnCursorKeyInsertCollidingKey': WHATEVER THE INPUT: true; the input reads as it did. -/
def fnCursorKeyInsertCollidingKeySpec : ChangeSpec := { name := "fnCursorKeyInsertCollidingKey", fn := fun _ => fun
  | [d1, d2, d3, d4, d5] => { results := [.lit (.bool true)], args := [d1, d2, d3, d4, d5] }
  | _ => none }
def fnCursorKeyInsertCollidingKeyRow : OpenClaim := { program := "qxb6628365a", sum := "7ea293ffcf92812f50cc721f8dfaf2161c99fc02d420f72940778dfa3a61889c", func := "example.com/apportion/apportion/zzlaws_pkg_store_b1.FnCursorKeyInsertCollidingKey", spec := "fnCursorKeyInsertCollidingKey", apart := false }
def FnCursorKeyInsertCollidingKeySaid : Prop := fnCursorKeyInsertCollidingKeyRow.holds Try.pinned (OpenSpec.ofChange fnCursorKeyInsertCollidingKeySpec)

/-- ITS FALSE NEIGHBOUR: 'it returns false'. Refute it at one input. -/
def fnCursorKeyInsertCollidingKeyWrong : ChangeSpec := { name := "fnCursorKeyInsertCollidingKey", fn := fun _ => fun
  | [d1, d2, d3, d4, d5] => { results := [.lit (.bool false)], args := [d1, d2, d3, d4, d5] }
  | _ => none }
def FnCursorKeyInsertCollidingKeyWrongFalsely : Prop := fnCursorKeyInsertCollidingKeyRow.holds Try.pinned (OpenSpec.ofChange fnCursorKeyInsertCollidingKeyWrong)

/-- 'zzlaws_pkg_store_b1.FnCursorKeyIgnoresWhichCollidingKeyCameFirst': WHATEVER THE INPUT: true; the input reads as it did. -/
def fnCursorKeyIgnoresWhichCollidingKeyCameFirstSpec : ChangeSpec := { name := "fnCursorKeyIgnoresWhichCollidingKeyCameFirst", fn := fun _ => fun
  | [d1, d2, d3] => { results := [.lit (.bool true)], args := [d1, d2, d3] }
  | _ => none }
def fnCursorKeyIgnoresWhichCollidingKeyCameFirstRow : OpenClaim := { program := "qxb6628365a", sum := "7ea293ffcf92812f50cc721f8dfaf2161c99fc02d420f72940778dfa3a61889c", func := "example.com/apportion/apportion/zzlaws_pkg_store_b1.FnCursorKeyIgnoresWhichCollidingKeyCameFirst", spec := "fnCursorKeyIgnoresWhichCollidingKeyCameFirst", apart := false }
def FnCursorKeyIgnoresWhichCollidingKeyCameFirstSaid : Prop := fnCursorKeyIgnoresWhichCollidingKeyCameFirstRow.holds Try.pinned (OpenSpec.ofChange fnCursorKeyIgnoresWhichCollidingKeyCameFirstSpec)

/-- ITS FALSE NEIGHBOUR: 'it returns false'. Refute it at one input. -/
def fnCursorKeyIgnoresWhichCollidingKeyCameFirstWrong : ChangeSpec := { name := "fnCursorKeyIgnoresWhichCollidingKeyCameFirst", fn := fun _ => fun
  | [d1, d2, d3] => { results := [.lit (.bool false)], args := [d1, d2, d3] }
  | _ => none }
def FnCursorKeyIgnoresWhichCollidingKeyCameFirstWrongFalsely : Prop := fnCursorKeyIgnoresWhichCollidingKeyCameFirstRow.holds Try.pinned (OpenSpec.ofChange fnCursorKeyIgnoresWhichCollidingKeyCameFirstWrong)

end Rows
end Go.Proofs.Qxb6628365a
