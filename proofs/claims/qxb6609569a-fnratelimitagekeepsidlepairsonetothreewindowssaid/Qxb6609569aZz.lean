/-
  zzBytes (4): it answers some bool and turns nothing. A slice that came in is told by its index operation ('Idx'): so one walk serves a nil slice, an empty one and all others.
-/
import Derived.Test.Qxb6609569aThin
namespace Go.Proofs.Qxb6609569a
open Go.RowKit
set_option linter.unusedVariables false

/-- Each index below the length leads to a cell of the row at (b, off). -/
def Idx (t : TypeId) (a : Option Addr) (len cap b off : Nat) : Prop :=
  ∀ k : Nat, k < len → ∀ w, (Instr.indexAt t (.slice a len cap) (.int .i64 k)).run Try.prog w = .ok (.pointer (some ⟨b, off + k, none⟩)) w

theorem idx_mk {t e : TypeId} (ht : Try.prog.underlying t = some (.slice e)) (he : Try.prog.cellsOf e = 1) (b off len cap : Nat) (hm : len ≤ maxLen) : Idx t (some ⟨b, off, none⟩) len cap b off := by
  intro k hk w
  have h1 : Try.prog.elem t = e := by simp [Program.elem, ht]
  rw [run_indexAt_slice (h := by rw [h1]; exact ht)]
  unfold maxLen at hm
  have hs : (sizeOf e).run Try.prog w = .ok 1 w := by
    obtain ⟨i, hi⟩ : ∃ i, Try.prog.info? e = some i := by
      cases hh : Try.prog.info? e with
      | none => simp [Program.cellsOf, hh] at he
      | some i => exact ⟨i, rfl⟩
    simp only [Program.cellsOf, hi, Option.map_some, Option.getD_some] at he
    simp [sizeOf, typeInfo, hi, he]
  rw [if_pos (by omega), h1, hs]
  simp [Addr.add, Result.andThen]

def SomeBool (e : Ending) : Prop := ∃ x, e = .returned (.bool x)
theorem someBool (x : Bool) : SomeBool (.returned (.bool x)) := ⟨x, rfl⟩

set_option maxHeartbeats 400000 in
theorem bytes_any (bg : Int) (a1 : Option Addr) (len1 cap1 : Nat) (a2 : Option Addr) (len2 cap2 b off : Nat) (ss : List ByteArray) (w : World) (hl1 : len1 ≤ 9223372036854775807) (hl2 : len2 ≤ 9223372036854775807)
    (hidx : Idx 23 a2 len2 cap2 b off) (hc : ∀ k, k < len2 → w.cell? ⟨b, off + k, none⟩ = some (.string (ss.getD k ByteArray.empty))) :
    Calls Try.prog 4 #[.int .i64 bg, .slice a1 len1 cap1, .slice a2 len2 cap2] w fun e w' => SomeBool e ∧ w' = w := by
  unfold Idx at hidx
  go_enter Try.func4, Try.ntmps4
  go_wp2
  · go_ret
    exact ⟨someBool _, rfl⟩
  · go_ret
    exact ⟨someBool _, rfl⟩
  · go_ret
    exact ⟨someBool _, rfl⟩
  · go_loop [7, 8] (fun z i => ∃ (k : Nat) (x : Int), k ≤ len2 ∧ i = .int .i64 k ∧ z = .int .i64 x) (fun _ i => len2 - (intOf i).toNat)
    case atStart => exact ⟨0, _, Nat.zero_le _, rfl, rfl⟩
    case round =>
      obtain ⟨k, x, hk, rfl, rfl⟩ := hrel
      by_cases hlt : k < len2
      · have h1 := hidx k hlt
        have h2 := hc k hlt
        clear hidx hc
        go_wp2
        · go_ret
          exact ⟨someBool _, rfl⟩
        · go_ret
          exact ⟨someBool _, rfl⟩
        · go_round
          case rel => exact ⟨k + 1, _, by omega, by go_num, rfl⟩
          case measure => simp [intOf]; omega
      · go_wp2
        go_ret
        exact ⟨someBool _, rfl⟩
end Go.Proofs.Qxb6609569a
