/-
  DERIVED. GIVEN WITH THE SEED: THE CARDS: each row of Qxb6612641aFmtRows.lean that lists a variable, with what it lists TIED to the program's text (the seventh form; the later family's looks); each row that meets fmt, with fmt's text TOLD by the authors' own Lean function (tested against real Go, not proved from fmt's source: count such statements apart). THE CARD IS WHAT COUNTS. Prove the row's statement (the work); the ties are given (Qxb6612641aFmtTie.lean); close each card by the builder's one call (the guide's Derived/Test/ToyasCard.lean, 'card_holds'). Laid BY PROGRAM, IN A SANDBOX (cutbox-door.mjs). By AI agents, Wed Nov 11 2026. No macro, syntax, notation, axiom, sorry.
-/
import Derived.Test.Qxb6612641aFmtRows
import GoSem.ClaimSeven
namespace Go.Proofs.Qxb6612641aFmt
namespace Rows

/-- THE TOLD CARD OF 'zzlaws_internal_cbor_b1.FnDecodeAllRefusesWhatIsLeft'. -/
def fnDecodeAllRefusesWhatIsLeftCard : Claim7 := { stood := { row := fnDecodeAllRefusesWhatIsLeftRow, standIns := [], harness := (true, "d2816da99cafd89d77cdafb9ddf548e61964dc6d39ab0995dac7b685fc2e63a1"), looks := false }, told := true, goes := false }
def FnDecodeAllRefusesWhatIsLeftToldSaid : Prop := Claim7.holds Tryf.pinned (.plain (OpenSpec.ofChange fnDecodeAllRefusesWhatIsLeftSpec)) fnDecodeAllRefusesWhatIsLeftCard
/-- ITS FALSE NEIGHBOUR. Refute it at one input. -/
def FnDecodeAllRefusesWhatIsLeftToldWrongFalsely : Prop := Claim7.holds Tryf.pinned (.plain (OpenSpec.ofChange fnDecodeAllRefusesWhatIsLeftWrong)) fnDecodeAllRefusesWhatIsLeftCard
end Rows
end Go.Proofs.Qxb6612641aFmt
