/-
  No cell of these rows narrows 'for every input' (looked for: loops, veiled, ifaces, maps, wideKeys, modest, calm, conditions, laid).
  DERIVED. THE GIVEN ROWS OF THIS SEAT. 2 by the template 'for every input the law returns true; each argument reads behind the call as it read before'; 0 by the template 'total and deterministic' (their statements: Qxb6628417aTotals.lean).
  GIVEN WITH THE SEED: the statements are not yours to turn. If you find one false, say at which input.
  Laid BY PROGRAM, IN A SANDBOX (cutbox-rows.mjs): the forced cells as the released guide's own fill.sh prints them over the translation cd5dd98f02d88cd8… (all of the seat's roots in one cut). By AI agents, Wed Nov 11 2026. No macro, syntax, notation, axiom, sorry.
-/
import Derived.Test.Qxb6628417aChecked
import GoSem.Claim
import GoSem.ClaimJoined
import GoSem.ClaimMapViews
import Derived.JoinedTies
import Derived.KernelRfl
namespace Go.Proofs.Qxb6628417a
/- THE CELL 'sum', in the pinned program and in every row, IS THE sha256 OF THE DUMP (.gsa) THAT Qxb6628417aProg.lean LOADS. Nothing in Lean hashes anything: it is a label: what it is worth is what the hold of that sum in a sandbox is worth. -/
noncomputable def Try.pinned : Pinned := { name := "qxb6628417a", sum := "cd5dd98f02d88cd8f568423ecbc7991f20d7575259bf528b49ee695011020ceb", checked := Try.checked }
namespace Rows
def none {H : Type} : Left H := { results := [], args := [] }

/-- 'zzlaws_internal_engine_b1.FnCheckInsertActiveFlipsOnlyThatID': WHATEVER THE INPUT: true; the input reads as it did. -/
def fnCheckInsertActiveFlipsOnlyThatIDSpec : ChangeSpec := { name := "fnCheckInsertActiveFlipsOnlyThatID", fn := fun _ => fun
  | [d1, d2, d3, d4, d5, d6] => { results := [.lit (.bool true)], args := [d1, d2, d3, d4, d5, d6] }
  | _ => none }
def fnCheckInsertActiveFlipsOnlyThatIDRow : OpenClaim := { program := "qxb6628417a", sum := "cd5dd98f02d88cd8f568423ecbc7991f20d7575259bf528b49ee695011020ceb", func := "example.com/palimpsest/palimpsest/zzlaws_internal_engine_b1.FnCheckInsertActiveFlipsOnlyThatID", spec := "fnCheckInsertActiveFlipsOnlyThatID", apart := false }
def FnCheckInsertActiveFlipsOnlyThatIDSaid : Prop := fnCheckInsertActiveFlipsOnlyThatIDRow.holds Try.pinned (OpenSpec.ofChange fnCheckInsertActiveFlipsOnlyThatIDSpec)

/-- ITS FALSE NEIGHBOUR: 'it returns false'. Refute it at one input. -/
def fnCheckInsertActiveFlipsOnlyThatIDWrong : ChangeSpec := { name := "fnCheckInsertActiveFlipsOnlyThatID", fn := fun _ => fun
  | [d1, d2, d3, d4, d5, d6] => { results := [.lit (.bool false)], args := [d1, d2, d3, d4, d5, d6] }
  | _ => none }
def FnCheckInsertActiveFlipsOnlyThatIDWrongFalsely : Prop := fnCheckInsertActiveFlipsOnlyThatIDRow.holds Try.pinned (OpenSpec.ofChange fnCheckInsertActiveFlipsOnlyThatIDWrong)

/-- 'zzlaws_internal_engine_b1.FnCheckMinShortcutKeepsVisibility': WHATEVER THE INPUT: true; the input reads as it did. -/
def fnCheckMinShortcutKeepsVisibilitySpec : ChangeSpec := { name := "fnCheckMinShortcutKeepsVisibility", fn := fun _ => fun
  | [d1, d2, d3, d4, d5, d6] => { results := [.lit (.bool true)], args := [d1, d2, d3, d4, d5, d6] }
  | _ => none }
def fnCheckMinShortcutKeepsVisibilityRow : OpenClaim := { program := "qxb6628417a", sum := "cd5dd98f02d88cd8f568423ecbc7991f20d7575259bf528b49ee695011020ceb", func := "example.com/palimpsest/palimpsest/zzlaws_internal_engine_b1.FnCheckMinShortcutKeepsVisibility", spec := "fnCheckMinShortcutKeepsVisibility", apart := false }
def FnCheckMinShortcutKeepsVisibilitySaid : Prop := fnCheckMinShortcutKeepsVisibilityRow.holds Try.pinned (OpenSpec.ofChange fnCheckMinShortcutKeepsVisibilitySpec)

/-- ITS FALSE NEIGHBOUR: 'it returns false'. Refute it at one input. -/
def fnCheckMinShortcutKeepsVisibilityWrong : ChangeSpec := { name := "fnCheckMinShortcutKeepsVisibility", fn := fun _ => fun
  | [d1, d2, d3, d4, d5, d6] => { results := [.lit (.bool false)], args := [d1, d2, d3, d4, d5, d6] }
  | _ => none }
def FnCheckMinShortcutKeepsVisibilityWrongFalsely : Prop := fnCheckMinShortcutKeepsVisibilityRow.holds Try.pinned (OpenSpec.ofChange fnCheckMinShortcutKeepsVisibilityWrong)

end Rows
end Go.Proofs.Qxb6628417a
