/-
  The way of the law on which there are too many steps or names.
-/
import Derived.Test.Qxb6609569aState
namespace Go.Proofs.Qxb6609569a
open Go.RowKit
set_option linter.unusedVariables false
set_option maxRecDepth 1000000 in
set_option maxHeartbeats 1000000 in
/-- More than 4096 steps or names: the law returns true at once. -/
theorem law_big (T0 : Int) (a1 : Option Addr) (len1 cap1 : Nat) (a2 : Option Addr) (len2 cap2 b2 off2 : Nat) (ss : List ByteArray) (w : World)
    (hl1 : len1 ≤ 9223372036854775807) (hl2 : len2 ≤ 9223372036854775807) (hbig : 4096 < len1 ∨ 4096 < len2)
    (hi2 : Idx 23 a2 len2 cap2 b2 off2) (hc2 : ∀ k, k < len2 → w.cell? ⟨b2, off2 + k, none⟩ = some (.string (ss.getD k ByteArray.empty))) :
    Calls Try.prog 3 #[.int .i64 T0, .slice a1 len1 cap1, .slice a2 len2 cap2] w fun e w' => e = .returned (.bool true) ∧ Below w.heap.size w w' := by
  have HI2 : Hid (Idx 23 a2 len2 cap2 b2 off2) := hi2
  have HC2 : Hid (∀ k, k < len2 → w.cell? ⟨b2, off2 + k, none⟩ = some (.string (ss.getD k ByteArray.empty))) := hc2
  clear hi2 hc2
  rcases (show 4096 < len1 ∨ (len1 ≤ 4096 ∧ 4096 < len2) by omega) with h | ⟨h, h'⟩
  all_goals
    clear hbig
    go_enter Try.func3, Try.ntmps3
    go_wp2_with fail
    refine (bytes_any T0 a1 len1 cap1 a2 len2 cap2 b2 off2 ss w (by omega) (by omega) HI2.out HC2.out).mono ?_
    rintro e w' ⟨⟨x, rfl⟩, rfl⟩
    cases x
    · go_wp2
      go_ret
      exact ⟨rfl, Below.refl _ _⟩
    · go_wp2
      go_ret
      exact ⟨rfl, Below.refl _ _⟩
end Go.Proofs.Qxb6609569a
