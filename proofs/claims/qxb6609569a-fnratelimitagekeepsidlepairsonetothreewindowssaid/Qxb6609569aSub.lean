import Derived.Test.Qxb6609569aAdd
import Derived.Deep.RegionWith
namespace Go.Proofs.Qxb6609569a
open Go.RowKit
set_option linter.unusedVariables false

theorem bcell {W w1 : World} (hb : Below W.heap.size W w1) : (∀ b o, b < W.heap.size → w1.cell? ⟨b, o, none⟩ = W.cell? ⟨b, o, none⟩) ∧ (∀ b o, b < W.heap.size → w1.frozen? ⟨b, o, none⟩ = W.frozen? ⟨b, o, none⟩) :=
  ⟨fun b o h => hb.cell (p := ⟨b, o, none⟩) h, fun b o h => hb.frozen (p := ⟨b, o, none⟩) h⟩

set_option maxHeartbeats 400000 in
theorem at_any (d : Int) (hd0 : -9223372036854775808 ≤ d) (hd1 : d ≤ 9223372036854775807) (w : World) :
    Calls Try.prog 6 #[.int .i64 d] w fun e w' =>
      e = .returned (.agg #[.int .u64 (d % 1000000000), .int .i64 (d / 1000000000), .pointer none]) ∧ Below w.heap.size w w' := by
  go_enter Try.func6, Try.ntmps6
  go_wp2_with fail
  refine (add_any 0 0 d (by omega) (by omega) (by omega) (by omega) hd0 hd1 _).mono ?_
  rintro e w1 ⟨rfl, hb⟩
  obtain ⟨hc, hf⟩ := bcell hb
  go_wp2
  refine bodyPost_ret (v := .agg #[.int .u64 (d % 1000000000), .int .i64 (d / 1000000000), .pointer none]) (by simp [results, Try.results6, go_sem, hc]) rfl ⟨rfl, ?_⟩
  exact (((((Below.refl _ _).alloc (Nat.le_refl _) _).trans (hb.mono (by simp))).setCell (by simp) _).setCell (by simp) _).setCell (by simp) _

theorem mono_none {n m : Int} (h0 : 0 ≤ n) (h1 : n < 1000000000) (g0 : 0 ≤ m) (g1 : m < 1000000000) : (bits .and .u64 (bits .and .u64 n m) 9223372036854775808 != 0) = false := by
  rw [and_none n h0 (by omega) m g0 g1]; rfl

theorem ret_i64 {a b : Int} (h : a = b) : Ending.returned (.int .i64 a) = .returned (.int .i64 b) := by rw [h]

theorem below_end {B1 B2 : Nat} {w W w1 w2 : World} (h1 : Below B1 W w1) (h2 : Below B2 w1 w2) (h0 : Below w.heap.size w W) (g1 : w.heap.size ≤ B1) (g2 : w.heap.size ≤ B2) : Below w.heap.size w w2 :=
  (h0.trans (h1.mono g1)).trans (h2.mono g2)

/-- 'Add' that comes to a known instant. -/
theorem add_to (n s d n' s' : Int) (h0 : 0 ≤ n) (h1 : n < 1000000000) (hs0 : -50000000000 ≤ s) (hs1 : s ≤ 50000000000) (hd0 : -9223372036854775808 ≤ d) (hd1 : d ≤ 9223372036854775807)
    (h0' : 0 ≤ n') (h1' : n' < 1000000000) (he : s * 1000000000 + n + d = s' * 1000000000 + n') (w : World) :
    Calls Try.prog 8 #[.agg #[.int .u64 n, .int .i64 s, .pointer none], .int .i64 d] w fun e w' =>
      e = .returned (.agg #[.int .u64 n', .int .i64 s', .pointer none]) ∧ Below w.heap.size w w' := by
  refine (add_any n s d h0 h1 hs0 hs1 hd0 hd1 w).mono ?_
  rintro e w' ⟨rfl, hb⟩
  exact ⟨ret_tm (by omega) (by omega), hb⟩

set_option maxHeartbeats 400000 in
theorem equal_same (n s : Int) (h0 : 0 ≤ n) (h1 : n < 1000000000) (w : World) :
    Calls Try.prog 20 #[.agg #[.int .u64 n, .int .i64 s, .pointer none], .agg #[.int .u64 n, .int .i64 s, .pointer none]] w fun e w' =>
      e = .returned (.bool true) ∧ Below w.heap.size w w' := by
  have e2 := mono_none h0 h1 h0 h1
  go_enter Try.func20, Try.ntmps20
  go_wp2_with (first | (go_at_call 14; refine (nsec_any _ _ n h0 h1 _ (by go_simp)).mono ?_; rintro e w' ⟨rfl, rfl⟩) | (go_at_call 19; refine (sec_any _ 0 n s h0 h1 _ (by go_simp) (by go_simp)).mono ?_; rintro e w' ⟨rfl, rfl⟩))
  go_ret
  exact ⟨rfl, ((Below.refl _ _).alloc (Nat.le_refl _) _).alloc (by simp) _⟩

set_option maxHeartbeats 1000000 in
theorem sub_any (n s n' s' D : Int) (h0 : 0 ≤ n) (h1 : n < 1000000000) (hs0 : -50000000000 ≤ s) (hs1 : s ≤ 50000000000) (h0' : 0 ≤ n') (h1' : n' < 1000000000) (hs0' : -50000000000 ≤ s') (hs1' : s' ≤ 50000000000)
    (hD : s * 1000000000 + n = s' * 1000000000 + n' + D) (hD0 : 0 ≤ D) (hD1 : D ≤ 10000000000) (w : World) :
    Calls Try.prog 11 #[.agg #[.int .u64 n, .int .i64 s, .pointer none], .agg #[.int .u64 n', .int .i64 s', .pointer none]] w fun e w' =>
      e = .returned (.int .i64 D) ∧ Below w.heap.size w w' := by
  have e2 := mono_none h0 h1 h0' h1'
  have HD : Hid (s * 1000000000 + n = s' * 1000000000 + n' + D) := hD
  have b1 : s - s' ≤ 11 := by omega
  have b2 : 0 ≤ s - s' := by omega
  clear hD
  go_enter Try.func11, Try.ntmps11
  go_wp2_with fail
  refine (sec_any _ 0 n s h0 h1 _ (by go_simp) (by go_simp)).mono ?_; rintro e w' ⟨rfl, rfl⟩
  go_wp2_with fail
  refine (sec_any _ 0 n' s' h0' h1' _ (by go_simp) (by go_simp)).mono ?_; rintro e w' ⟨rfl, rfl⟩
  go_wp2_with fail
  refine (nsec_any _ _ n h0 h1 _ (by go_simp)).mono ?_; rintro e w' ⟨rfl, rfl⟩
  go_wp2_with fail
  refine (nsec_any _ _ n' h0' h1' _ (by go_simp)).mono ?_; rintro e w' ⟨rfl, rfl⟩
  go_wp2_with fail
  go_region_with (first | (go_at_call 8; refine (add_to n' s' _ n s h0' h1' hs0' hs1' (by omega) (by omega) h0 h1 (by omega) _).mono ?_; rintro e w1 ⟨rfl, hb1⟩; obtain ⟨hc1, hf1⟩ := bcell hb1) | (go_at_call 20; refine (equal_same n s h0 h1 _).mono ?_; rintro e w2 ⟨rfl, hb2⟩))
  all_goals
    go_wp2
    go_ret
    refine ⟨ret_i64 (by have := HD.out; omega), ?_⟩
    have hz := hb1.size
    simp at hz
    exact below_end hb1 hb2 (((Below.refl _ _).alloc (Nat.le_refl _) _).alloc (by simp) _).drew (by simp; omega) (by omega)
end Go.Proofs.Qxb6609569a
