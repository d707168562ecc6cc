/-
  The thin functions round the rateLimit: ZZRateLimitAge (9), ZZNewRateLimit (7), ZZRateLimitFields (10), ZZNewClaimant (12).
-/
import Derived.Test.Qxb6609569aAge
namespace Go.Proofs.Qxb6609569a
open Go.RowKit
set_option linter.unusedVariables false

/-- What 'age' leaves: D nanoseconds have gone by since the limiter's (n', s'). -/
def Aged (w w' : World) (L c p : Nat) (n s n' s' D : Int) : Prop :=
  w.grownBy w' (some L) ∧ ((D < 1000000000 ∧ Lim w' L n' s' c p) ∨
    (1000000000 ≤ D ∧ D < 2000000000 ∧ ∃ c', w.heap.size ≤ c' ∧ w'.heap[c']? = some (.map #[] 0) ∧ Lim w' L n s c' c) ∨
    (2000000000 ≤ D ∧ ∃ c' p', w.heap.size ≤ c' ∧ w.heap.size ≤ p' ∧ w'.heap[c']? = some (.map #[] 0) ∧ w'.heap[p']? = some (.map #[] 0) ∧ Lim w' L n s c' p'))

theorem age_any (L c p : Nat) (n s n' s' D : Int) (h0 : 0 ≤ n) (h1 : n < 1000000000) (hs0 : -50000000000 ≤ s) (hs1 : s ≤ 50000000000) (h0' : 0 ≤ n') (h1' : n' < 1000000000) (hs0' : -50000000000 ≤ s') (hs1' : s' ≤ 50000000000)
    (hD : s * 1000000000 + n = s' * 1000000000 + n' + D) (hD0 : 0 ≤ D) (hD1 : D ≤ 10000000000) (w : World) (hL : Lim w L n' s' c p) :
    Calls Try.prog 17 #[.pointer (some ⟨L, 0, none⟩), .agg #[.int .u64 n, .int .i64 s, .pointer none]] w fun e w' =>
      e = .returned (.tuple #[]) ∧ Aged w w' L c p n s n' s' D := by
  rcases (show D < 1000000000 ∨ (1000000000 ≤ D ∧ D < 2000000000) ∨ 2000000000 ≤ D by omega) with h | ⟨h, h'⟩ | h
  · refine (age_1 L c p n s n' s' D h0 h1 hs0 hs1 h0' h1' hs0' hs1' hD hD0 h w hL).mono ?_
    rintro e w' ⟨rfl, hg, hl⟩
    exact ⟨rfl, hg, .inl ⟨h, hl⟩⟩
  · refine (age_2 L c p n s n' s' D h0 h1 hs0 hs1 h0' h1' hs0' hs1' hD h h' w hL).mono ?_
    rintro e w' ⟨rfl, hg, hl⟩
    exact ⟨rfl, hg, .inr (.inl ⟨h, h', hl⟩)⟩
  · refine (age_3 L c p n s n' s' D h0 h1 hs0 hs1 h0' h1' hs0' hs1' hD h hD1 w hL).mono ?_
    rintro e w' ⟨rfl, hg, hl⟩
    exact ⟨rfl, hg, .inr (.inr ⟨h, hl⟩)⟩

theorem Aged.from {w W w' : World} {L c p : Nat} {n s n' s' D : Int} (h : Aged W w' L c p n s n' s' D) (h0 : w.grownBy W (some L)) : Aged w w' L c p n s n' s' D := by
  obtain ⟨hg, h⟩ := h
  have hs := h0.size
  refine ⟨h0.trans hg, ?_⟩
  rcases h with h | ⟨a, b, c', hc, r⟩ | ⟨a, c', p', hc, hp, r⟩
  · exact .inl h
  · exact .inr (.inl ⟨a, b, c', by omega, r⟩)
  · exact .inr (.inr ⟨a, c', p', by omega, by omega, r⟩)

set_option maxHeartbeats 400000 in
theorem zzage_any (L c p : Nat) (n s n' s' D : Int) (h0 : 0 ≤ n) (h1 : n < 1000000000) (hs0 : -50000000000 ≤ s) (hs1 : s ≤ 50000000000) (h0' : 0 ≤ n') (h1' : n' < 1000000000) (hs0' : -50000000000 ≤ s') (hs1' : s' ≤ 50000000000)
    (hD : s * 1000000000 + n = s' * 1000000000 + n' + D) (hD0 : 0 ≤ D) (hD1 : D ≤ 10000000000) (w : World) (hL : Lim w L n' s' c p) :
    Calls Try.prog 9 #[.pointer (some ⟨L, 0, none⟩), .agg #[.int .u64 n, .int .i64 s, .pointer none]] w fun e w' =>
      e = .returned (.tuple #[]) ∧ Aged w w' L c p n s n' s' D := by
  have HD : Hid (s * 1000000000 + n = s' * 1000000000 + n' + D) := hD
  have HL : Hid (Lim w L n' s' c p) := hL
  clear hD hL
  go_enter Try.func9, Try.ntmps9
  go_wp2_with fail
  refine (age_any L c p n s n' s' D h0 h1 hs0 hs1 h0' h1' hs0' hs1' HD.out hD0 hD1 _ (alloc_block HL.out)).mono ?_
  rintro e w1 ⟨rfl, ha⟩
  have HA : Hid (Aged w w1 L c p n s n' s' D) := ha.from (World.grownBy_alloc _ _ _)
  clear ha
  go_wp2
  go_end0
  exact ⟨rfl, HA.out⟩

theorem new_any (n s : Int) (c p : Nat) (w : World) :
    Calls Try.prog 7 #[.agg #[.int .u64 n, .int .i64 s, .pointer none], .map (some c), .map (some p)] w fun e w' =>
      e = .returned (.pointer (some ⟨w.heap.size + 1, 0, none⟩)) ∧ w.grownBy w' none ∧ w'.heap.size = w.heap.size + 2 ∧ Lim w' (w.heap.size + 1) n s c p := by
  go_enter Try.func7, Try.ntmps7
  go_wp2
  go_ret
  exact ⟨rfl, (World.grownBy_alloc _ _ _).trans (World.grownBy_alloc _ _ _), by simp, heap_alloc2_new _ _ _⟩

theorem claimant_any (a b : ByteArray) (w : World) :
    Calls Try.prog 12 #[.string a, .string b] w fun e w' => e = .returned (.agg #[.string a, .string b]) ∧ Below w.heap.size w w' := by
  go_enter Try.func12, Try.ntmps12
  go_wp2
  exact bodyPost_ret (v := .agg #[.string a, .string b]) (by simp [results, Try.results12, go_sem]) rfl ⟨rfl, (Below.refl _ _).alloc (Nat.le_refl _) _⟩

set_option maxHeartbeats 400000 in
theorem fields_any (L c p : Nat) (n s : Int) (w : World) (hL : Lim w L n s c p) :
    Calls Try.prog 10 #[.pointer (some ⟨L, 0, none⟩)] w fun e w' =>
      e = .returned (.tuple #[.agg #[.int .u64 n, .int .i64 s, .pointer none], .map (some c), .map (some p)]) ∧ Below w.heap.size w w' := by
  obtain ⟨c3, c4, c5, c6, c7, cf⟩ := hL.cells
  have hlt := hL.lt
  clear hL
  go_enter Try.func10, Try.ntmps10
  go_wp2
  go_region
  all_goals
    go_wp2
    exact bodyPost_ret (v := .tuple #[.agg #[.int .u64 n, .int .i64 s, .pointer none], .map (some c), .map (some p)]) (by simp [results, Try.results10, go_sem]) rfl ⟨rfl, ((Below.refl _ _).alloc (Nat.le_refl _) _).drew⟩

end Go.Proofs.Qxb6609569a
