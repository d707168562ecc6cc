/-
  No cell of these rows narrows 'for every input' (looked for: loops, veiled, ifaces, maps, wideKeys, modest, calm, conditions, laid).
  DERIVED. THE GIVEN ROWS OF THIS SEAT. 2 by the template 'for every input the law returns true; each argument reads behind the call as it read before'; 0 by the template 'total and deterministic' (their statements: Qxb6612520aTotals.lean).
  GIVEN WITH THE SEED: the statements are not yours to turn. If you find one false, say at which input.
  Laid BY PROGRAM, IN A SANDBOX (cutbox-rows.mjs): the forced cells as the released guide's own fill.sh prints them over the translation bc56e2a2ec46928c… (all of the seat's roots in one cut). By AI agents, Wed Nov 11 2026. No macro, syntax, notation, axiom, sorry.
-/
import Derived.Test.Qxb6612520aChecked
import GoSem.Claim
import GoSem.ClaimJoined
import GoSem.ClaimMapViews
import Derived.JoinedTies
import Derived.KernelRfl
namespace Go.Proofs.Qxb6612520a
/- THE CELL 'sum', in the pinned program and in every row, IS THE sha256 OF THE DUMP (.gsa) THAT Qxb6612520aProg.lean LOADS. Nothing in Lean hashes anything: it is a label: what it is worth is what the hold of that sum in a sandbox is worth. -/
noncomputable def Try.pinned : Pinned := { name := "qxb6612520a", sum := "bc56e2a2ec46928c9dc39bafa1acfe2b2fca95020ecc9dfb21abcd0461cbd8d7", checked := Try.checked }
namespace Rows
def none {H : Type} : Left H := { results := [], args := [] }

/-- 'zzlaws_pkg_input_b1.FnNotPlainASCIIMatchesPrintableTable': WHATEVER THE INPUT: true; the input reads as it did. -/
def fnNotPlainASCIIMatchesPrintableTableSpec : ChangeSpec := { name := "fnNotPlainASCIIMatchesPrintableTable", fn := fun _ => fun
  | [d] => { results := [.lit (.bool true)], args := [d] }
  | _ => none }
def fnNotPlainASCIIMatchesPrintableTableRow : OpenClaim := { program := "qxb6612520a", sum := "bc56e2a2ec46928c9dc39bafa1acfe2b2fca95020ecc9dfb21abcd0461cbd8d7", func := "example.com/guishu/guishu/zzlaws_pkg_input_b1.FnNotPlainASCIIMatchesPrintableTable", spec := "fnNotPlainASCIIMatchesPrintableTable", apart := false }
def FnNotPlainASCIIMatchesPrintableTableSaid : Prop := fnNotPlainASCIIMatchesPrintableTableRow.holds Try.pinned (OpenSpec.ofChange fnNotPlainASCIIMatchesPrintableTableSpec)

/-- ITS FALSE NEIGHBOUR: 'it returns false'. Refute it at one input. -/
def fnNotPlainASCIIMatchesPrintableTableWrong : ChangeSpec := { name := "fnNotPlainASCIIMatchesPrintableTable", fn := fun _ => fun
  | [d] => { results := [.lit (.bool false)], args := [d] }
  | _ => none }
def FnNotPlainASCIIMatchesPrintableTableWrongFalsely : Prop := fnNotPlainASCIIMatchesPrintableTableRow.holds Try.pinned (OpenSpec.ofChange fnNotPlainASCIIMatchesPrintableTableWrong)

/-- 'zzlaws_pkg_input_b1.FnScannerFailIdempotentAndForgetsPosition': WHATEVER THE INPUT: true; the input reads as it did. -/
def fnScannerFailIdempotentAndForgetsPositionSpec : ChangeSpec := { name := "fnScannerFailIdempotentAndForgetsPosition", fn := fun _ => fun
  | [d1, d2, d3, d4, d5, d6] => { results := [.lit (.bool true)], args := [d1, d2, d3, d4, d5, d6] }
  | _ => none }
def fnScannerFailIdempotentAndForgetsPositionRow : OpenClaim := { program := "qxb6612520a", sum := "bc56e2a2ec46928c9dc39bafa1acfe2b2fca95020ecc9dfb21abcd0461cbd8d7", func := "example.com/guishu/guishu/zzlaws_pkg_input_b1.FnScannerFailIdempotentAndForgetsPosition", spec := "fnScannerFailIdempotentAndForgetsPosition", apart := false }
def FnScannerFailIdempotentAndForgetsPositionSaid : Prop := fnScannerFailIdempotentAndForgetsPositionRow.holds Try.pinned (OpenSpec.ofChange fnScannerFailIdempotentAndForgetsPositionSpec)

/-- ITS FALSE NEIGHBOUR: 'it returns false'. Refute it at one input. -/
def fnScannerFailIdempotentAndForgetsPositionWrong : ChangeSpec := { name := "fnScannerFailIdempotentAndForgetsPosition", fn := fun _ => fun
  | [d1, d2, d3, d4, d5, d6] => { results := [.lit (.bool false)], args := [d1, d2, d3, d4, d5, d6] }
  | _ => none }
def FnScannerFailIdempotentAndForgetsPositionWrongFalsely : Prop := fnScannerFailIdempotentAndForgetsPositionRow.holds Try.pinned (OpenSpec.ofChange fnScannerFailIdempotentAndForgetsPositionWrong)

end Rows
end Go.Proofs.Qxb6612520a
