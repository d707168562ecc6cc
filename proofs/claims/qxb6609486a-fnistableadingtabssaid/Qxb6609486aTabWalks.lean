/-
  The walks of 'leading' (function 10) handed 'isTab' (function 11), and of 'ZZleadingTabs' (function 6).
-/
import Derived.Test.Qxb6609486aRows
import Derived.WalkKit
namespace Go.Proofs.Qxb6609486a.fnIsTabLeadingTabs
open Go.RowKit

/-- What 'leading' with 'isTab' answers: the first n bytes are tabs, and no tab stands right behind them. -/
def Lead (s : ByteArray) (n : Nat) : Prop :=
  n ≤ s.size ∧ (∀ j (h : j < s.size), j < n → s[j] = 9) ∧ ∀ h : n < s.size, s[n] ≠ 9

theorem byte9 {c : UInt8} (h : ((c.toNat : Int) == 9) = true) : c = 9 := by
  have h1 : (c.toNat : Int) = 9 := by simpa using h
  apply UInt8.toNat_inj.1
  show c.toNat = 9
  omega
theorem not9 {c : UInt8} (h : ((c.toNat : Int) == 9) = false) : c ≠ 9 := by
  rintro rfl
  simp at h
theorem is9 {c : UInt8} (h : c = 9) : ((c.toNat : Int) == 9) = true := by subst h; rfl
theorem isnt9 {c : UInt8} (h : c ≠ 9) : ((c.toNat : Int) == 9) = false := by
  cases hc : ((c.toNat : Int) == 9)
  · rfl
  · exact absurd (byte9 hc) h

theorem upto_step {s : ByteArray} {k : Nat} (h : k < s.size) (h9 : s[k] = 9) (H : ∀ j (h : j < s.size), j < k → s[j] = 9) : ∀ j (h : j < s.size), j < k + 1 → s[j] = 9 := by
  intro j hj hjk
  by_cases e : j = k
  · subst e; exact h9
  · exact H j hj (by omega)

set_option maxHeartbeats 400000 in
theorem leading_any (s : ByteArray) (w : World) (hs : s.size ≤ 1048576) :
    Calls Try.prog 10 #[.string s, .func (.func 11) #[] #[]] w fun e w' => ∃ n : Nat, e = .returned (.int .i64 n) ∧ Lead s n ∧ w' = w := by
  go_enter Try.func10, Try.ntmps10
  go_wp2
  go_loop [5] (fun t => ∃ k : Nat, k ≤ s.size ∧ t = .int .i64 k ∧ Hid (∀ j (h : j < s.size), j < k → s[j] = 9)) (fun t => s.size - (intOf t).toNat)
  case atStart => exact ⟨0, Nat.zero_le _, rfl, fun j _ h => absurd h (by omega)⟩
  case round =>
    obtain ⟨k, hk, rfl, H⟩ := hrel
    by_cases hlt : k < s.size
    · go_wp2
      · have h9 : ((s[k].toNat : Int) == 9) = true := by assumption
        go_round
        case rel => exact ⟨k + 1, by omega, by go_num, upto_step hlt (byte9 h9) H.out⟩
        case measure => simp [intOf]; omega
      · have h9 : ((s[k].toNat : Int) == 9) = false := by assumption
        go_ret
        exact ⟨k, rfl, ⟨hk, H.out, fun _ => not9 h9⟩, rfl⟩
    · go_wp2
      go_ret
      exact ⟨k, rfl, ⟨hk, H.out, fun h => absurd h hlt⟩, rfl⟩

theorem zz_any (s : ByteArray) (w : World) (hs : s.size ≤ 1048576) :
    Calls Try.prog 6 #[.string s] w fun e w' => ∃ n : Nat, e = .returned (.int .i64 n) ∧ Lead s n ∧ w' = w := by
  go_enter Try.func6, Try.ntmps6
  go_wp2_with fail
  refine (leading_any s w hs).mono ?_
  rintro e w' ⟨n, rfl, hl, rfl⟩
  go_wp2
  go_ret
  exact ⟨n, rfl, hl, rfl⟩

end Go.Proofs.Qxb6609486a.fnIsTabLeadingTabs
