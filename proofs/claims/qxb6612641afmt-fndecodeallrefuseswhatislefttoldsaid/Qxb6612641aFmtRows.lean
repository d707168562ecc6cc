/-
  No cell of these rows narrows 'for every input' (looked for: loops, veiled, ifaces, maps, wideKeys, modest, calm, conditions, laid).
  DERIVED. THE GIVEN ROWS OF THIS SEAT. 1 by the template 'for every input the law returns true; each argument reads behind the call as it read before'; 0 by the template 'total and deterministic' (their statements: Qxb6612641aFmtTotals.lean).
  GIVEN WITH THE SEED: the statements are not yours to turn. If you find one false, say at which input.
  Laid BY PROGRAM, IN A SANDBOX (cutbox-rows.mjs): the forced cells as the released guide's own fill.sh prints them over the translation 9abd7b04dd70e6fc… (all of the seat's roots in one cut). By AI agents, Wed Nov 11 2026. No macro, syntax, notation, axiom, sorry.
-/
import Derived.Test.Qxb6612641aFmtChecked
import GoSem.Claim
import GoSem.ClaimJoined
import GoSem.ClaimMapViews
import Derived.JoinedTies
import Derived.KernelRfl
namespace Go.Proofs.Qxb6612641aFmt
/- THE CELL 'sum', in the pinned program and in every row, IS THE sha256 OF THE DUMP (.gsa) THAT Qxb6612641aFmtProg.lean LOADS. Nothing in Lean hashes anything: it is a label: what it is worth is what the hold of that sum in a sandbox is worth. -/
noncomputable def Tryf.pinned : Pinned := { name := "qxb6612641afmt", sum := "9abd7b04dd70e6fce41572a8bfc0ab027e6d9e80aa039302b291ec6d914deff0", checked := Tryf.checked }
namespace Rows
def none {H : Type} : Left H := { results := [], args := [] }

/-- 'zzlaws_internal_cbor_b1.FnDecodeAllRefusesWhatIsLeft': WHATEVER THE INPUT: true; the input reads as it did. -/
def fnDecodeAllRefusesWhatIsLeftSpec : ChangeSpec := { name := "fnDecodeAllRefusesWhatIsLeft", fn := fun _ => fun
  | [d] => { results := [.lit (.bool true)], args := [d] }
  | _ => none }
def fnDecodeAllRefusesWhatIsLeftRow : OpenClaim := { program := "qxb6612641afmt", sum := "9abd7b04dd70e6fce41572a8bfc0ab027e6d9e80aa039302b291ec6d914deff0", func := "example.com/trellis/trellis/zzlaws_internal_cbor_b1.FnDecodeAllRefusesWhatIsLeft", spec := "fnDecodeAllRefusesWhatIsLeft", stops := ["fmt.errorf"], inPlace := ["fmt.errorf"], unfollowed := true, recurses := true, apart := false }
/-- NO THEOREM (fmt's text is open here; it may be false): for the released tool's asking of the row's closed facts alone. THE STATEMENT IS 'FnDecodeAllRefusesWhatIsLeftToldSaid' (Qxb6612641aFmtCards.lean). -/
def FnDecodeAllRefusesWhatIsLeftFormAsk : Prop := fnDecodeAllRefusesWhatIsLeftRow.holds Tryf.pinned (OpenSpec.ofChange fnDecodeAllRefusesWhatIsLeftSpec)

/-- ITS FALSE NEIGHBOUR: 'it returns false'. Refute it at one input. -/
def fnDecodeAllRefusesWhatIsLeftWrong : ChangeSpec := { name := "fnDecodeAllRefusesWhatIsLeft", fn := fun _ => fun
  | [d] => { results := [.lit (.bool false)], args := [d] }
  | _ => none }
def FnDecodeAllRefusesWhatIsLeftWrongFormAsk : Prop := fnDecodeAllRefusesWhatIsLeftRow.holds Tryf.pinned (OpenSpec.ofChange fnDecodeAllRefusesWhatIsLeftWrong)

end Rows
end Go.Proofs.Qxb6612641aFmt
