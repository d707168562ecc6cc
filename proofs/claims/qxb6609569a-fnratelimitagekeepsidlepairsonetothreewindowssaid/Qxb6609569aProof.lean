/-
  'Rows.FnRateLimitAgeKeepsIdlePairsOneToThreeWindowsSaid': the row, out of the law's walks ('law_main', 'law_big').
-/
import Derived.Test.Qxb6609569aRows
import Derived.Test.Qxb6609569aLaw
import Derived.Test.Qxb6609569aBig
import Derived.WalkKit
import Derived.ProofKit
import Derived.OpenShut
import Derived.ShutString
import Derived.ChangeOld
import Derived.Below
import Derived.SliceStrings
namespace Go.Proofs.Qxb6609569a
open Go.ChangeShapes Go.WideShapes Go.ChangeAt Go.RowKit
set_option linter.unusedVariables false

theorem own : ownKnob Try.prog.godebug = none := by kernel_rfl
theorem cells38 : Try.prog.cellsOf 38 = 1 := by kernel_rfl

/-- A slice of numbers that came in: its index operation, its cells, its numbers. -/
def IsNums (w : World) (a : Option Addr) (len cap : Nat) : Prop :=
  len ≤ maxLen ∧ ∃ (b off : Nat) (zs : List Int), (0 < len → b < w.heap.size) ∧ Idx 22 a len cap b off ∧ (∀ k, k < len → w.cell? ⟨b, off + k, none⟩ = some (.int .u32 (zs.getD k 0))) ∧ ∀ k, 0 ≤ zs.getD k 0 ∧ zs.getD k 0 ≤ 4294967295

/-- A slice of strings that came in. -/
def IsStrs (w : World) (a : Option Addr) (len cap : Nat) : Prop :=
  len ≤ maxLen ∧ ∃ (b off : Nat) (ss : List ByteArray), (0 < len → b < w.heap.size) ∧ Idx 23 a len cap b off ∧ (∀ k, k < len → w.cell? ⟨b, off + k, none⟩ = some (.string (ss.getD k ByteArray.empty))) ∧ ∀ k, k < len → (ss.getD k ByteArray.empty).size ≤ maxLen

theorem idx_none (t : TypeId) (a : Option Addr) (cap b off : Nat) : Idx t a 0 cap b off := fun k hk => absurd hk (by omega)

theorem nums_zero (w : World) (a : Option Addr) (cap : Nat) : IsNums w a 0 cap :=
  ⟨Nat.zero_le _, 0, 0, [], fun h => absurd h (by omega), idx_none _ _ _ _ _, fun k hk => absurd hk (by omega), fun k => by simp⟩
theorem strs_zero (w : World) (a : Option Addr) (cap : Nat) : IsStrs w a 0 cap :=
  ⟨Nat.zero_le _, 0, 0, [], fun h => absurd h (by omega), idx_none _ _ _ _ _, fun k hk => absurd hk (by omega), fun k hk => absurd hk (by omega)⟩

theorem lt_of_cell {w : World} {b o : Nat} {v : Value} (h : w.cell? ⟨b, o, none⟩ = some v) : b < w.heap.size := World.block_lt_of_cell? w ⟨b, o, none⟩ h

theorem nums_mk {w : World} {x : Addr} {len cap : Nat} {zs : List Int} (hl : len ≤ cap) (hm : cap ≤ maxLen) (hz : zs.length = cap) (hc : ∀ i, i < zs.length → w.cell? (x.add i) = some (.int .u32 (zs.getD i 0))) (hw : ∀ n ∈ zs, (Lit.int .u32 n).wf = true) : IsNums w (some x) len cap := by
  by_cases h0 : len = 0
  · subst h0; exact nums_zero _ _ _
  · have c0 := hc 0 (by omega)
    obtain ⟨b, off, spot⟩ := x
    have hspot : spot = none := by simpa [Addr.add] using World.cell?_spot c0
    subst hspot
    have hc' : ∀ k, k < zs.length → w.cell? ⟨b, off + k, none⟩ = some (.int .u32 (zs.getD k 0)) := fun k hk => by rw [← add_plain]; exact hc k hk
    refine ⟨by omega, b, off, zs, fun _ => lt_of_cell (hc' 0 (by omega)), idx_mk Try.underlying22 cells38 b off len cap (by omega), fun k hk => hc' k (by omega), fun k => ?_⟩
    by_cases hk : k < zs.length
    · have := hw (zs.getD k 0) (by rw [List.getD_eq_getElem?_getD, List.getElem?_eq_getElem hk]; simp)
      have := bounds_u32 this
      omega
    · rw [List.getD_eq_getElem?_getD, List.getElem?_eq_none (by omega)]
      simp

theorem strs_mk {w : World} {x : Addr} {len cap : Nat} {ss : List ByteArray} (hl : len ≤ cap) (hm : cap ≤ maxLen) (hz : ss.length = cap) (hc : ∀ i, i < ss.length → w.cell? (x.add i) = some (.string (ss.getD i ByteArray.empty))) (hw : ∀ s ∈ ss, s.size ≤ maxLen) : IsStrs w (some x) len cap := by
  by_cases h0 : len = 0
  · subst h0; exact strs_zero _ _ _
  · have c0 := hc 0 (by omega)
    obtain ⟨b, off, spot⟩ := x
    have hspot : spot = none := by simpa [Addr.add] using World.cell?_spot c0
    subst hspot
    have hc' : ∀ k, k < ss.length → w.cell? ⟨b, off + k, none⟩ = some (.string (ss.getD k ByteArray.empty)) := fun k hk => by rw [← add_plain]; exact hc k hk
    refine ⟨by omega, b, off, ss, fun _ => lt_of_cell (hc' 0 (by omega)), idx_mk Try.underlying23 cells9 b off len cap (by omega), fun k hk => hc' k (by omega), fun k hk => ?_⟩
    exact hw _ (by rw [List.getD_eq_getElem?_getD, List.getElem?_eq_getElem (by omega)]; simp)

theorem walk (a0 : Int) (w0 : (Lit.int .i64 a0).wf = true) (a1 : Option Addr) (len1 cap1 : Nat) (a2 : Option Addr) (len2 cap2 : Nat) (w : World) (w1 : IsNums w a1 len1 cap1) (w2 : IsStrs w a2 len2 cap2) :
    Calls Try.prog 3 #[.int .i64 a0, .slice a1 len1 cap1, .slice a2 len2 cap2] w fun e w' => e = .returned (.bool true) ∧ Below w.heap.size w w' := by
  have hb := bounds_i64 w0
  obtain ⟨m1, b1, off1, zs, hb1, hi1, hc1, hz1⟩ := w1
  obtain ⟨m2, b2, off2, ss, hb2, hi2, hc2, hz2⟩ := w2
  unfold maxLen at m1 m2
  by_cases hbig : 4096 < len1 ∨ 4096 < len2
  · exact law_big a0 a1 len1 cap1 a2 len2 cap2 b2 off2 ss w (by omega) (by omega) hbig hi2 hc2
  · exact law_main a0 (by omega) (by omega) a1 len1 cap1 b1 off1 zs a2 len2 cap2 b2 off2 ss w (by omega) (by omega) hb1 hb2 hi1 hc1 hz1 hi2 hc2 hz2

set_option maxRecDepth 100000 in
theorem lifted (os : Os) (started : os.Started) (H : Type) (enc : TypeId × Value → H) :
    ReturnsInHanded {} Try.checked os 3 .any (Rows.fnRateLimitAgeKeepsIdlePairsOneToThreeWindowsSpec.pre6 enc Try.prog Try.f3 Rows.fnRateLimitAgeKeepsIdlePairsOneToThreeWindowsRow.domain false) (Rows.fnRateLimitAgeKeepsIdlePairsOneToThreeWindowsSpec.post enc Try.prog Try.f3 false true false false) := by
  refine returnsInHanded_of_change (C := Try.checked) own started (by kernel_rfl) Try.func3
    (ChangeSpec.witness6 (enc := enc) (C := Try.checked) false ⟨#[], #[.int .i64 0, .slice none 0 0, .slice none 0 0], []⟩ 8 (by kernel_rfl) (by kernel_rfl) (by kernel_rfl) (by kernel_rfl)) ?_
  intro W base args ds gs before hval0 hW hcnd _
  have hval : ∀ (j : Nat) t v, Try.f3.params[j]? = some t → args[j]? = some v → Value.okWide Try.prog W .any base t v := hval0
  have hW' := hW
  obtain ⟨p, q, hA0, hV, rfl, hfz, hnd⟩ := hW
  have hA : DataW.TrodAll enc Try.prog W 0 (fun _ => true) true Try.f3.params.toList args.toList ds p := hA0
  rw [Try.params3] at hA hval
  obtain ⟨v0, vs0, d0, ds0, p0, q0, hargs, rfl, rfl, h0, r0⟩ := trodAll_cons hA
  obtain ⟨v1, vs1, d1, ds1, p1, q1, rfl, rfl, rfl, h1, r1⟩ := trodAll_cons r0
  obtain ⟨v2, vs2, d2, ds2, p2, q2, rfl, rfl, rfl, h2, r2⟩ := trodAll_cons r1
  obtain ⟨rfl, rfl, rfl⟩ := trodAll_nil r2
  obtain rfl : args = #[v0, v1, v2] := by cases args; simp_all
  obtain ⟨rfl, rfl⟩ := trodVars_none hV
  obtain ⟨a0, rfl, rfl, rfl, w0⟩ := open_int Try.underlying2 (hval 0 2 v0 rfl rfl) h0
  obtain ⟨a1, len1, cap1, rfl⟩ := okWide_slice Try.underlying22 (hval 1 22 v1 rfl rfl)
  have k1 := h1
  have lt1 : ∀ x ∈ p1, x.block < W.heap.size := by obtain ⟨m, hm⟩ := k1; exact DataW.trod_lt m _ _ _ hm
  have w1 : IsNums W a1 len1 cap1 := by
    obtain ⟨fuel, hf⟩ := h1
    rcases open_ints Try.underlying22 Try.underlying38 cells38 hf with ⟨hcs, _⟩ | ⟨x, l, c, zs, hcs, _, hl, hm, hz, _, hcell, hwz⟩
    · simp [Value.cells] at hcs
      obtain ⟨rfl, rfl, rfl⟩ := hcs
      exact nums_zero _ _ _
    · simp [Value.cells] at hcs
      obtain ⟨rfl, rfl, rfl⟩ := hcs
      exact nums_mk hl hm (by simpa using hz) hcell hwz
  obtain ⟨a2, len2, cap2, rfl⟩ := okWide_slice Try.underlying23 (hval 2 23 v2 rfl rfl)
  have k2 := h2
  have lt2 : ∀ x ∈ p2, x.block < W.heap.size := by obtain ⟨m, hm⟩ := k2; exact DataW.trod_lt m _ _ _ hm
  have w2 : IsStrs W a2 len2 cap2 := by
    obtain ⟨fuel, hf⟩ := h2
    rcases open_strings Try.underlying23 Try.underlying9 cells9 hf with ⟨hcs, _⟩ | ⟨x, l, c, ss, hcs, _, hl, hm, hz, _, hcell, hws⟩
    · simp [Value.cells] at hcs
      obtain ⟨rfl, rfl, rfl⟩ := hcs
      exact strs_zero _ _ _
    · simp [Value.cells] at hcs
      obtain ⟨rfl, rfl, rfl⟩ := hcs
      exact strs_mk hl hm (by simpa using hz) hcell hws
  clear hA0 hval0
  refine (walk a0 w0 a1 len1 cap1 a2 len2 cap2 W w1 w2).mono fun e W' ⟨he, bel⟩ => ?_
  subst he
  exact ⟨_, rfl, _, _, _, [], _, [], hW', trodAll_mk1 (shut_bool Try.underlying4 _), (trodAll_cons_mk (shut_int Try.underlying2 w0) (trodAll_cons_mk (Below.trod Try.laidOut (by kernel_rfl) (of_decide_eq_true (by kernel_rfl)) k1 bel lt1) (trodAll_cons_mk (Below.trod Try.laidOut (by kernel_rfl) (of_decide_eq_true (by kernel_rfl)) k2 bel lt2) trodAll_mk0))), rfl, bel.frame _, fun h => by cases h⟩

theorem over : Rows.fnRateLimitAgeKeepsIdlePairsOneToThreeWindowsRow.holds Try.pinned (OpenSpec.ofChange Rows.fnRateLimitAgeKeepsIdlePairsOneToThreeWindowsSpec) :=
  OpenClaim.holds_of_wide 3 Try.f3 rfl rfl rfl rfl rfl rfl rfl ⟨rfl, rfl, rfl, rfl, rfl⟩ rfl rfl rfl rfl rfl (by kernel_rfl) Try.func3 (by kernel_rfl)
    (of_decide_eq_true (by kernel_rfl)) (by unfold Func.isWrapper; first | (rw [if_pos (by decide +kernel)]; kernel_rfl) | (rw [if_neg (by decide +kernel)]; exact ⟨rfl, rfl⟩))
    (fun os started H enc _ => lifted os started H enc)

/-- THE STATEMENT -/
theorem proved : Rows.FnRateLimitAgeKeepsIdlePairsOneToThreeWindowsSaid := over
end Go.Proofs.Qxb6609569a
