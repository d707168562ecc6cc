import Derived.Test.Qxb6609569aRows
import Derived.Test.Qxb6609569aBits
import Derived.WalkKit
namespace Go.Proofs.Qxb6609569a
open Go.RowKit
theorem ret_i32 {a b : Int} (h : a = b) : Ending.returned (.int .i32 a) = .returned (.int .i32 b) := by rw [h]
theorem mono_no {n : Int} (h0 : 0 ≤ n) (h1 : n < 1000000000) (h : (bits .and .u64 n 9223372036854775808 != 0) = true) : False := by
  rw [and_mono h0 h1] at h; exact absurd h (by decide)
set_option maxHeartbeats 400000 in
theorem nsec_any (b o : Nat) (n : Int) (h0 : 0 ≤ n) (h1 : n < 1000000000) (w : World) (hc : w.cell? ⟨b, o, none⟩ = some (.int .u64 n)) :
    Calls Try.prog 14 #[.pointer (some ⟨b, o, none⟩)] w fun e w' => e = .returned (.int .i32 n) ∧ w' = w := by
  go_enter Try.func14, Try.ntmps14
  go_wp2
  go_ret
  exact ⟨ret_i32 (by rw [and_mask h0 h1]; unfold wrap32; omega), rfl⟩
set_option maxHeartbeats 400000 in
theorem sec_any (b o : Nat) (n s : Int) (h0 : 0 ≤ n) (h1 : n < 1000000000) (w : World) (hc : w.cell? ⟨b, o, none⟩ = some (.int .u64 n)) (hs : w.cell? ⟨b, o + 1, none⟩ = some (.int .i64 s)) :
    Calls Try.prog 19 #[.pointer (some ⟨b, o, none⟩)] w fun e w' => e = .returned (.int .i64 s) ∧ w' = w := by
  go_enter Try.func19, Try.ntmps19
  go_wp2
  · exact (mono_no h0 h1 (by assumption)).elim
  · go_ret
    exact ⟨rfl, rfl⟩
set_option maxHeartbeats 400000 in
theorem addSec_any (b o : Nat) (n s d : Int) (h0 : 0 ≤ n) (h1 : n < 1000000000) (hs0 : -100000000000 ≤ s) (hs1 : s ≤ 100000000000) (hd0 : -100000000000 ≤ d) (hd1 : d ≤ 100000000000) (w : World)
    (hc : w.cell? ⟨b, o, none⟩ = some (.int .u64 n)) (hs : w.cell? ⟨b, o + 1, none⟩ = some (.int .i64 s)) (hf : w.frozen? ⟨b, o + 1, none⟩ = false) :
    Calls Try.prog 15 #[.pointer (some ⟨b, o, none⟩), .int .i64 d] w fun e w' => e = .returned (.tuple #[]) ∧ w' = w.setCell ⟨b, o + 1, none⟩ (.int .i64 (s + d)) := by
  have e2 : (bits .and .u64 n 9223372036854775808 != 0) = false := by rw [and_mono h0 h1]; rfl
  by_cases hd : 0 < d
  · go_enter Try.func15, Try.ntmps15
    go_wp2
    go_end0
    exact ⟨rfl, rfl⟩
  · have hq : decide (s < s + d) = false := decide_eq_false (by omega)
    go_enter Try.func15, Try.ntmps15
    go_wp2
    go_end0
    exact ⟨rfl, rfl⟩
end Go.Proofs.Qxb6609569a
