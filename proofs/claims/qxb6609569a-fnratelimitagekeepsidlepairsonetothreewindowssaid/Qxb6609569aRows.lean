/-
  No cell of these rows narrows 'for every input' (looked for: loops, veiled, ifaces, maps, wideKeys, modest, calm, conditions, laid).
  DERIVED. THE GIVEN ROWS OF THIS SEAT. 1 by the template 'for every input the law returns true; each argument reads behind the call as it read before'; 0 by the template 'total and deterministic' (their statements: Qxb6609569aTotals.lean).
  GIVEN WITH THE SEED: the statements are not yours to turn. If you find one false, say at which input.
  Laid BY PROGRAM, IN A SANDBOX (cutbox-rows.mjs): the forced cells as the released guide's own fill.sh prints them over the translation d0db38075e4a75d0… (all of the seat's roots in one cut). By AI agents, Wed Nov 11 2026. No macro, syntax, notation, axiom, sorry.
-/
import Derived.Test.Qxb6609569aChecked
import GoSem.Claim
import GoSem.ClaimJoined
import GoSem.ClaimMapViews
import Derived.JoinedTies
import Derived.KernelRfl
namespace Go.Proofs.Qxb6609569a
/- THE CELL 'sum', in the pinned program and in every row, IS THE sha256 OF THE DUMP (.gsa) THAT Qxb6609569aProg.lean LOADS. Nothing in Lean hashes anything: it is a label: what it is worth is what the hold of that sum in a sandbox is worth. -/
noncomputable def Try.pinned : Pinned := { name := "qxb6609569a", sum := "d0db38075e4a75d0a7289f62f4658685cafd87c22429728ad07ed7068ad8d0d5", checked := Try.checked }
namespace Rows
def none {H : Type} : Left H := { results := [], args := [] }

/-- 'zzlaws_internal_api_b1.FnRateLimitAgeKeepsIdlePairsOneToThreeWindows': WHATEVER THE INPUT: true; the input reads as it did. -/
def fnRateLimitAgeKeepsIdlePairsOneToThreeWindowsSpec : ChangeSpec := { name := "fnRateLimitAgeKeepsIdlePairsOneToThreeWindows", fn := fun _ => fun
  | [d1, d2, d3] => { results := [.lit (.bool true)], args := [d1, d2, d3] }
  | _ => none }
def fnRateLimitAgeKeepsIdlePairsOneToThreeWindowsRow : OpenClaim := { program := "qxb6609569a", sum := "d0db38075e4a75d0a7289f62f4658685cafd87c22429728ad07ed7068ad8d0d5", func := "example.com/velvet-rope/velvet-rope/zzlaws_internal_api_b1.FnRateLimitAgeKeepsIdlePairsOneToThreeWindows", spec := "fnRateLimitAgeKeepsIdlePairsOneToThreeWindows", plainKeys := false, apart := false }
def FnRateLimitAgeKeepsIdlePairsOneToThreeWindowsSaid : Prop := fnRateLimitAgeKeepsIdlePairsOneToThreeWindowsRow.holds Try.pinned (OpenSpec.ofChange fnRateLimitAgeKeepsIdlePairsOneToThreeWindowsSpec)

/-- ITS FALSE NEIGHBOUR: 'it returns false'. Refute it at one input. -/
def fnRateLimitAgeKeepsIdlePairsOneToThreeWindowsWrong : ChangeSpec := { name := "fnRateLimitAgeKeepsIdlePairsOneToThreeWindows", fn := fun _ => fun
  | [d1, d2, d3] => { results := [.lit (.bool false)], args := [d1, d2, d3] }
  | _ => none }
def FnRateLimitAgeKeepsIdlePairsOneToThreeWindowsWrongFalsely : Prop := fnRateLimitAgeKeepsIdlePairsOneToThreeWindowsRow.holds Try.pinned (OpenSpec.ofChange fnRateLimitAgeKeepsIdlePairsOneToThreeWindowsWrong)

end Rows
end Go.Proofs.Qxb6609569a
