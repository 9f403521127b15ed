/-
  No cell of these rows narrows 'for every input' (looked for: loops, veiled, ifaces, maps, wideKeys, modest, calm, conditions, laid).
  DERIVED. THE GIVEN ROWS OF THIS SEAT. 1 by the template 'for every input the law returns true; each argument reads behind the call as it read before'; 0 by the template 'total and deterministic' (their statements: Qxb6628426aFmtTotals.lean).
  GIVEN WITH THE SEED: the statements are not yours to turn. If you find one false, say at which input.
  Laid BY PROGRAM, IN A SANDBOX (cutbox-rows.mjs): the forced cells as the released guide's own fill.sh prints them over the translation 4529c5d7949af73c… (all of the seat's roots in one cut). By AI agents, Wed Nov 11 2026. No macro, syntax, notation, axiom, sorry.
-/
import Derived.Test.Qxb6628426aFmtChecked
import GoSem.Claim
import GoSem.ClaimJoined
import GoSem.ClaimMapViews
import Derived.JoinedTies
import Derived.KernelRfl
namespace Go.Proofs.Qxb6628426aFmt
/- THE CELL 'sum', in the pinned program and in every row, IS THE sha256 OF THE DUMP (.gsa) THAT Qxb6628426aFmtProg.lean LOADS. Nothing in Lean hashes anything: it is a label: what it is worth is what the hold of that sum in a sandbox is worth. -/
noncomputable def Tryf.pinned : Pinned := { name := "qxb6628426afmt", sum := "4529c5d7949af73c5d2b13f71fdff7e21084838e4308d9139578e716d701f8cb", checked := Tryf.checked }
namespace Rows
def none {H : Type} : Left H := { results := [], args := [] }

/-- 'zzlaws_testnet_b1.FnCheckAcceptanceClosedUnderGreaterOfTwo': WHATEVER THE INPUT: true; the input reads as it did. -/
def fnCheckAcceptanceClosedUnderGreaterOfTwoSpec : ChangeSpec := { name := "fnCheckAcceptanceClosedUnderGreaterOfTwo", fn := fun _ => fun
  | [d1, d2] => { results := [.lit (.bool true)], args := [d1, d2] }
  | _ => none }
def fnCheckAcceptanceClosedUnderGreaterOfTwoRow : OpenClaim := { program := "qxb6628426afmt", sum := "4529c5d7949af73c5d2b13f71fdff7e21084838e4308d9139578e716d701f8cb", func := "example.com/ringstead/ringstead/zzlaws_testnet_b1.FnCheckAcceptanceClosedUnderGreaterOfTwo", spec := "fnCheckAcceptanceClosedUnderGreaterOfTwo", stops := ["fmt.errorf, its operands' methods called"], inPlace := ["fmt.errorf"], unfollowed := true, recurses := true, apart := false }
/-- NO THEOREM (fmt's text is open here; it may be false): for the released tool's asking of the row's closed facts alone. THE STATEMENT IS 'FnCheckAcceptanceClosedUnderGreaterOfTwoToldSaid' (Qxb6628426aFmtCards.lean). -/
def FnCheckAcceptanceClosedUnderGreaterOfTwoFormAsk : Prop := fnCheckAcceptanceClosedUnderGreaterOfTwoRow.holds Tryf.pinned (OpenSpec.ofChange fnCheckAcceptanceClosedUnderGreaterOfTwoSpec)

/-- ITS FALSE NEIGHBOUR: 'it returns false'. Refute it at one input. -/
def fnCheckAcceptanceClosedUnderGreaterOfTwoWrong : ChangeSpec := { name := "fnCheckAcceptanceClosedUnderGreaterOfTwo", fn := fun _ => fun
  | [d1, d2] => { results := [.lit (.bool false)], args := [d1, d2] }
  | _ => none }
def FnCheckAcceptanceClosedUnderGreaterOfTwoWrongFormAsk : Prop := fnCheckAcceptanceClosedUnderGreaterOfTwoRow.holds Tryf.pinned (OpenSpec.ofChange fnCheckAcceptanceClosedUnderGreaterOfTwoWrong)

end Rows
end Go.Proofs.Qxb6628426aFmt
