import Derived.Test.Qxb6609569aTime
namespace Go.Proofs.Qxb6609569a
open Go.RowKit

theorem ret_tm {a b c d : Int} (h1 : a = c) (h2 : b = d) : Ending.returned (.agg #[.int .u64 a, .int .i64 b, .pointer none]) = .returned (.agg #[.int .u64 c, .int .i64 d, .pointer none]) := by rw [h1, h2]

theorem parts (d : Int) (hd0 : -9223372036854775808 ≤ d) (hd1 : d ≤ 9223372036854775807) : ∃ q r, d.tdiv 1000000000 = q ∧ d.tmod 1000000000 = r ∧ q * 1000000000 + r = d ∧ -1000000000 < r ∧ r < 1000000000 ∧ -10000000000 < q ∧ q < 10000000000 := by
  refine ⟨_, _, rfl, rfl, ?_⟩
  by_cases h : 0 ≤ d
  · rw [Int.tdiv_eq_ediv_of_nonneg h, Int.tmod_eq_emod_of_nonneg h]
    omega
  · obtain ⟨x, rfl⟩ : ∃ x, d = -x := ⟨-d, by omega⟩
    rw [Int.neg_tdiv, Int.neg_tmod, Int.tdiv_eq_ediv_of_nonneg (by omega), Int.tmod_eq_emod_of_nonneg (by omega)]
    omega

set_option maxHeartbeats 1000000 in
theorem add_any (n s d : Int) (h0 : 0 ≤ n) (h1 : n < 1000000000) (hs0 : -50000000000 ≤ s) (hs1 : s ≤ 50000000000) (hd0 : -9223372036854775808 ≤ d) (hd1 : d ≤ 9223372036854775807) (w : World) :
    Calls Try.prog 8 #[.agg #[.int .u64 n, .int .i64 s, .pointer none], .int .i64 d] w fun e w' =>
      e = .returned (.agg #[.int .u64 ((s * 1000000000 + n + d) % 1000000000), .int .i64 ((s * 1000000000 + n + d) / 1000000000), .pointer none]) ∧ Below w.heap.size w w' := by
  obtain ⟨q, r, hq, hr, hqr0, hr0, hr1, hq0, hq1⟩ := parts d hd0 hd1
  have hqr : Hid (q * 1000000000 + r = d) := hqr0
  clear hqr0
  rcases (show 1000000000 ≤ n + r ∨ n + r < 0 ∨ (0 ≤ n + r ∧ n + r < 1000000000) by omega) with hx | hx | ⟨hx, hx'⟩
  · have e3 : bits .or .u64 (bits .andNot .u64 n 1073741823) (n + r - 1000000000) = n + r - 1000000000 := by
      rw [andNot_mask h0 h1, or_zero (by omega) (by omega)]
    have e2 : (bits .and .u64 (n + r - 1000000000) 9223372036854775808 != 0) = false := by rw [and_mono (by omega) (by omega)]; rfl
    go_enter Try.func8, Try.ntmps8
    go_wp2_with (first | (go_at_call 14; refine (nsec_any _ _ n h0 h1 _ (by go_simp)).mono ?_; rintro e w' ⟨rfl, rfl⟩) | (go_at_call 15; refine (addSec_any _ 0 (n + r - 1000000000) s (q + 1) (by omega) (by omega) (by omega) (by omega) (by omega) (by omega) _ (by go_simp) (by go_simp) (by go_simp)).mono ?_; rintro e w' ⟨rfl, rfl⟩))
    refine bodyPost_ret (v := .agg #[.int .u64 (n + r - 1000000000), .int .i64 (s + (q + 1)), .pointer none]) (by simp [results, Try.results8, go_sem]) rfl ⟨?_, ?_⟩
    · exact ret_tm (by have := hqr.out; omega) (by have := hqr.out; omega)
    · exact ((Below.refl _ _).alloc (Nat.le_refl _) _).alloc (by simp) _
  · have e3 : bits .or .u64 (bits .andNot .u64 n 1073741823) (n + r + 1000000000) = n + r + 1000000000 := by
      rw [andNot_mask h0 h1, or_zero (by omega) (by omega)]
    have e2 : (bits .and .u64 (n + r + 1000000000) 9223372036854775808 != 0) = false := by rw [and_mono (by omega) (by omega)]; rfl
    go_enter Try.func8, Try.ntmps8
    go_wp2_with (first | (go_at_call 14; refine (nsec_any _ _ n h0 h1 _ (by go_simp)).mono ?_; rintro e w' ⟨rfl, rfl⟩) | (go_at_call 15; refine (addSec_any _ 0 (n + r + 1000000000) s (q - 1) (by omega) (by omega) (by omega) (by omega) (by omega) (by omega) _ (by go_simp) (by go_simp) (by go_simp)).mono ?_; rintro e w' ⟨rfl, rfl⟩))
    refine bodyPost_ret (v := .agg #[.int .u64 (n + r + 1000000000), .int .i64 (s + (q - 1)), .pointer none]) (by simp [results, Try.results8, go_sem]) rfl ⟨?_, ?_⟩
    · exact ret_tm (by have := hqr.out; omega) (by have := hqr.out; omega)
    · exact ((Below.refl _ _).alloc (Nat.le_refl _) _).alloc (by simp) _
  · have e3 : bits .or .u64 (bits .andNot .u64 n 1073741823) (n + r) = n + r := by
      rw [andNot_mask h0 h1, or_zero (by omega) (by omega)]
    have e2 : (bits .and .u64 (n + r) 9223372036854775808 != 0) = false := by rw [and_mono (by omega) (by omega)]; rfl
    go_enter Try.func8, Try.ntmps8
    go_wp2_with (first | (go_at_call 14; refine (nsec_any _ _ n h0 h1 _ (by go_simp)).mono ?_; rintro e w' ⟨rfl, rfl⟩) | (go_at_call 15; refine (addSec_any _ 0 (n + r) s (q) (by omega) (by omega) (by omega) (by omega) (by omega) (by omega) _ (by go_simp) (by go_simp) (by go_simp)).mono ?_; rintro e w' ⟨rfl, rfl⟩))
    refine bodyPost_ret (v := .agg #[.int .u64 (n + r), .int .i64 (s + (q)), .pointer none]) (by simp [results, Try.results8, go_sem]) rfl ⟨?_, ?_⟩
    · exact ret_tm (by have := hqr.out; omega) (by have := hqr.out; omega)
    · exact ((Below.refl _ _).alloc (Nat.le_refl _) _).alloc (by simp) _
end Go.Proofs.Qxb6609569a
