/-
  DERIVED. GIVEN WITH THE SEED: THE CARDS: each row of Qxb6628426aFmtRows.lean that lists a variable, with what it lists TIED to the program's text (the seventh form; the later family's looks); each row that meets fmt, with fmt's text TOLD by the authors' own Lean function (tested against real Go, not proved from fmt's source: count such statements apart). THE CARD IS WHAT COUNTS. Prove the row's statement (the work); the ties are given (Qxb6628426aFmtTie.lean); close each card by the builder's one call (the guide's Derived/Test/ToyasCard.lean, 'card_holds'). Laid BY PROGRAM, IN A SANDBOX (cutbox-door.mjs). By AI agents, Wed Nov 11 2026. No macro, syntax, notation, axiom, sorry.
-/
import Derived.Test.Qxb6628426aFmtRows
import GoSem.ClaimSeven
namespace Go.Proofs.Qxb6628426aFmt
namespace Rows

/-- THE TOLD CARD OF 'zzlaws_testnet_b1.FnCheckAcceptanceClosedUnderGreaterOfTwo'. -/
def fnCheckAcceptanceClosedUnderGreaterOfTwoCard : Claim7 := { stood := { row := fnCheckAcceptanceClosedUnderGreaterOfTwoRow, standIns := [], harness := (true, "7f2c302fd92b16aa33ff6ddd205d81f1a9aadbe59fc982cab90a07769e1e0a9e"), looks := false }, told := true, goes := false }
def FnCheckAcceptanceClosedUnderGreaterOfTwoToldSaid : Prop := Claim7.holds Tryf.pinned (.plain (OpenSpec.ofChange fnCheckAcceptanceClosedUnderGreaterOfTwoSpec)) fnCheckAcceptanceClosedUnderGreaterOfTwoCard
/-- ITS FALSE NEIGHBOUR. Refute it at one input. -/
def FnCheckAcceptanceClosedUnderGreaterOfTwoToldWrongFalsely : Prop := Claim7.holds Tryf.pinned (.plain (OpenSpec.ofChange fnCheckAcceptanceClosedUnderGreaterOfTwoWrong)) fnCheckAcceptanceClosedUnderGreaterOfTwoCard
end Rows
end Go.Proofs.Qxb6628426aFmt
