/-
  The contracts of (*rateLimit).age and of the two thin functions round it.
-/
import Derived.Test.Qxb6609569aSub
import Derived.Maps.OwnSet
import Derived.Maps.AppendAt
namespace Go.Proofs.Qxb6609569a
open Go.RowKit
set_option linter.unusedVariables false

/-- Block L is a rateLimit that began at (n, s), its two generations in the map blocks c and p. -/
def Lim (w : World) (L : Nat) (n s : Int) (c p : Nat) : Prop :=
  w.heap[L]? = some (.cells #[.nilFunc, .int .i32 0, .int .u32 0, .int .u64 n, .int .i64 s, .pointer none, .map (some c), .map (some p)] 59 (0, 0))

theorem Lim.lt {w : World} {L : Nat} {n s : Int} {c p : Nat} (h : Lim w L n s c p) : L < w.heap.size := lt_of_block h
theorem Lim.cells {w : World} {L : Nat} {n s : Int} {c p : Nat} (h : Lim w L n s c p) :
    w.cell? ⟨L, 3, none⟩ = some (.int .u64 n) ∧ w.cell? ⟨L, 4, none⟩ = some (.int .i64 s) ∧ w.cell? ⟨L, 5, none⟩ = some (.pointer none) ∧ w.cell? ⟨L, 6, none⟩ = some (.map (some c)) ∧ w.cell? ⟨L, 7, none⟩ = some (.map (some p)) ∧ ∀ o, w.frozen? ⟨L, o, none⟩ = false := by
  unfold Lim at h
  refine ⟨by simp [World.cell?, h], by simp [World.cell?, h], by simp [World.cell?, h], by simp [World.cell?, h], by simp [World.cell?, h], fun o => by simp [World.frozen?, h]⟩

theorem set_block {w : World} {b i : Nat} {arr : Array Value} {t : TypeId} {v : Value} (h : w.heap[b]? = some (.cells arr t (0, 0))) : (w.setCell ⟨b, i, none⟩ v).heap[b]? = some (.cells (arr.setIfInBounds i v) t (0, 0)) := by
  have hlt := lt_of_block h
  have h' : w.heap[b] = .cells arr t (0, 0) := by simpa [Array.getElem?_eq_getElem hlt] using h
  show (w.heap.modify b _)[b]? = _
  rw [Array.getElem?_eq_getElem (by simpa using hlt), Array.getElem_modify_self, h']
  rfl
theorem alloc_block {w : World} {b : Nat} {o o' : Obj} (h : w.heap[b]? = some o) : (w.alloc o').heap[b]? = some o := (Below.heap_alloc w o' b (lt_of_block h)).trans h
theorem new_block (w : World) (o : Obj) : (w.alloc o).heap[w.heap.size]? = some o := by
  show (w.heap.push o)[w.heap.size]? = _
  simp
theorem size_set (w : World) (a : Addr) (v : Value) : (w.setCell a v).heap.size = w.heap.size := by simp [World.setCell]
theorem grown_set {w w' : World} {L i : Nat} (h : w.grownBy w' (some L)) (v : Value) : w.grownBy (w'.setCell ⟨L, i, none⟩ v) (some L) :=
  h.trans ⟨rfl, rfl, rfl, by rw [size_set]; exact Nat.le_refl _, fun k _ hk => Below.heap_setCell _ _ _ k (fun e => hk (by rw [e]))⟩
theorem grown_alloc {w w' : World} {r : Option Nat} (h : w.grownBy w' r) (o : Obj) : w.grownBy (w'.alloc o) r := h.trans (World.grownBy_alloc _ _ _)
theorem grown_below {B : Nat} {w w' : World} {r : Option Nat} (h : Below B w w') (hB : w.heap.size ≤ B) : w.grownBy w' r := ⟨h.os, h.tape, h.output, h.size, fun k hk _ => h.block k (by omega)⟩

theorem grown_from {w W w1 : World} {r : Option Nat} (hb : Below W.heap.size W w1) (h0 : Below w.heap.size w W) : w.grownBy w1 r := grown_below (h0.trans (hb.mono h0.size)) (Nat.le_refl _)

theorem aged2 {w w1 : World} {L c p : Nat} {n s n' s' : Int} (hg : w.grownBy w1 (some L)) (h : Lim w1 L n' s' c p) :
    ∃ c', w.heap.size ≤ c' ∧ ((((((w1.setCell ⟨L, 7, none⟩ (.map (some c))).setCell ⟨L, 6, none⟩ (.map (some w1.heap.size))).setCell ⟨L, 3, none⟩ (.int .u64 n)).setCell ⟨L, 4, none⟩ (.int .i64 s)).setCell ⟨L, 5, none⟩ (.pointer none)).alloc (.map #[] 0)).heap[c']? = some (.map #[] 0) ∧
      Lim ((((((w1.setCell ⟨L, 7, none⟩ (.map (some c))).setCell ⟨L, 6, none⟩ (.map (some w1.heap.size))).setCell ⟨L, 3, none⟩ (.int .u64 n)).setCell ⟨L, 4, none⟩ (.int .i64 s)).setCell ⟨L, 5, none⟩ (.pointer none)).alloc (.map #[] 0)) L n s c' c := by
  refine ⟨w1.heap.size, hg.size, ?_, ?_⟩
  · have e : (((((w1.setCell ⟨L, 7, none⟩ (.map (some c))).setCell ⟨L, 6, none⟩ (.map (some w1.heap.size))).setCell ⟨L, 3, none⟩ (.int .u64 n)).setCell ⟨L, 4, none⟩ (.int .i64 s)).setCell ⟨L, 5, none⟩ (.pointer none)).heap.size = w1.heap.size := by simp only [size_set]
    have h := new_block (((((w1.setCell ⟨L, 7, none⟩ (.map (some c))).setCell ⟨L, 6, none⟩ (.map (some w1.heap.size))).setCell ⟨L, 3, none⟩ (.int .u64 n)).setCell ⟨L, 4, none⟩ (.int .i64 s)).setCell ⟨L, 5, none⟩ (.pointer none)) (.map #[] 0)
    rw [e] at h
    exact h
  · exact alloc_block (set_block (set_block (set_block (set_block (set_block h)))))

theorem aged3 {w w1 : World} {L c p : Nat} {n s n' s' : Int} (hg : w.grownBy w1 (some L)) (h : Lim w1 L n' s' c p) :
    ∃ c' p', w.heap.size ≤ c' ∧ w.heap.size ≤ p' ∧ ((((((((w1.setCell ⟨L, 7, none⟩ (.map (some c))).setCell ⟨L, 7, none⟩ (.map (some w1.heap.size))).setCell ⟨L, 6, none⟩ (.map (some (w1.heap.size + 1)))).setCell ⟨L, 3, none⟩ (.int .u64 n)).setCell ⟨L, 4, none⟩ (.int .i64 s)).setCell ⟨L, 5, none⟩ (.pointer none)).alloc (.map #[] 0)).alloc (.map #[] 0)).heap[c']? = some (.map #[] 0) ∧
      ((((((((w1.setCell ⟨L, 7, none⟩ (.map (some c))).setCell ⟨L, 7, none⟩ (.map (some w1.heap.size))).setCell ⟨L, 6, none⟩ (.map (some (w1.heap.size + 1)))).setCell ⟨L, 3, none⟩ (.int .u64 n)).setCell ⟨L, 4, none⟩ (.int .i64 s)).setCell ⟨L, 5, none⟩ (.pointer none)).alloc (.map #[] 0)).alloc (.map #[] 0)).heap[p']? = some (.map #[] 0) ∧
      Lim ((((((((w1.setCell ⟨L, 7, none⟩ (.map (some c))).setCell ⟨L, 7, none⟩ (.map (some w1.heap.size))).setCell ⟨L, 6, none⟩ (.map (some (w1.heap.size + 1)))).setCell ⟨L, 3, none⟩ (.int .u64 n)).setCell ⟨L, 4, none⟩ (.int .i64 s)).setCell ⟨L, 5, none⟩ (.pointer none)).alloc (.map #[] 0)).alloc (.map #[] 0)) L n s c' p' := by
  have hs := hg.size
  refine ⟨w1.heap.size + 1, w1.heap.size, by omega, by omega, ?_, ?_, ?_⟩
  · have e : ((((((w1.setCell ⟨L, 7, none⟩ (.map (some c))).setCell ⟨L, 7, none⟩ (.map (some w1.heap.size))).setCell ⟨L, 6, none⟩ (.map (some (w1.heap.size + 1)))).setCell ⟨L, 3, none⟩ (.int .u64 n)).setCell ⟨L, 4, none⟩ (.int .i64 s)).setCell ⟨L, 5, none⟩ (.pointer none)).heap.size = w1.heap.size := by simp only [size_set]
    have h := heap_alloc2_new ((((((w1.setCell ⟨L, 7, none⟩ (.map (some c))).setCell ⟨L, 7, none⟩ (.map (some w1.heap.size))).setCell ⟨L, 6, none⟩ (.map (some (w1.heap.size + 1)))).setCell ⟨L, 3, none⟩ (.int .u64 n)).setCell ⟨L, 4, none⟩ (.int .i64 s)).setCell ⟨L, 5, none⟩ (.pointer none)) (.map #[] 0) (.map #[] 0)
    rw [e] at h
    exact h
  · have e : ((((((w1.setCell ⟨L, 7, none⟩ (.map (some c))).setCell ⟨L, 7, none⟩ (.map (some w1.heap.size))).setCell ⟨L, 6, none⟩ (.map (some (w1.heap.size + 1)))).setCell ⟨L, 3, none⟩ (.int .u64 n)).setCell ⟨L, 4, none⟩ (.int .i64 s)).setCell ⟨L, 5, none⟩ (.pointer none)).heap.size = w1.heap.size := by simp only [size_set]
    have h := heap_alloc2_old ((((((w1.setCell ⟨L, 7, none⟩ (.map (some c))).setCell ⟨L, 7, none⟩ (.map (some w1.heap.size))).setCell ⟨L, 6, none⟩ (.map (some (w1.heap.size + 1)))).setCell ⟨L, 3, none⟩ (.int .u64 n)).setCell ⟨L, 4, none⟩ (.int .i64 s)).setCell ⟨L, 5, none⟩ (.pointer none)) (.map #[] 0) (.map #[] 0)
    rw [e] at h
    exact h
  · exact alloc_block (alloc_block (set_block (set_block (set_block (set_block (set_block (set_block h)))))))

set_option maxHeartbeats 1000000 in
theorem age_1 (L c p : Nat) (n s n' s' D : Int) (h0 : 0 ≤ n) (h1 : n < 1000000000) (hs0 : -50000000000 ≤ s) (hs1 : s ≤ 50000000000) (h0' : 0 ≤ n') (h1' : n' < 1000000000) (hs0' : -50000000000 ≤ s') (hs1' : s' ≤ 50000000000)
    (hD : s * 1000000000 + n = s' * 1000000000 + n' + D) (hD0 : 0 ≤ D) (hD1 : D < 1000000000) (w : World) (hL : Lim w L n' s' c p) :
    Calls Try.prog 17 #[.pointer (some ⟨L, 0, none⟩), .agg #[.int .u64 n, .int .i64 s, .pointer none]] w fun e w' =>
      e = .returned (.tuple #[]) ∧ w.grownBy w' (some L) ∧ Lim w' L n' s' c p := by
  obtain ⟨c3, c4, c5, c6, c7, cf⟩ := hL.cells
  have hlt := hL.lt
  have HD : Hid (s * 1000000000 + n = s' * 1000000000 + n' + D) := hD
  have HL : Hid (Lim w L n' s' c p) := hL
  clear hD hL
  have hmm := @run_makeMap Try.prog
  go_enter Try.func17, Try.ntmps17
  go_wp2
  go_region_with (go_at_call 11; refine (sub_any n s n' s' D h0 h1 hs0 hs1 h0' h1' hs0' hs1' HD.out (by omega) (by omega) _).mono ?_; rintro e w1 ⟨rfl, hb1⟩)
  all_goals
    have hz1 := hb1.size
    simp at hz1
    have hl1 : L < w1.heap.size := by omega
    have hl2 : L < w1.heap.size + 1 := by omega
    have hl3 : w.heap.size < w1.heap.size := by omega
    have hl4 : w.heap.size < w1.heap.size + 1 := by omega
    have hg : w.grownBy w1 (some L) := grown_from hb1 ((Below.refl _ _).alloc (Nat.le_refl _) _).drew
    have L1 : Lim w1 L n' s' c p := (hb1.block L (by simp; omega)).trans (alloc_block HL.out)
    have t0 : w1.cell? ⟨w.heap.size, 0, none⟩ = some (.int .u64 n) := (hb1.cell (p := ⟨w.heap.size, 0, none⟩) (by simp)).trans (by simp [go_sem])
    have t1 : w1.cell? ⟨w.heap.size, 1, none⟩ = some (.int .i64 s) := (hb1.cell (p := ⟨w.heap.size, 1, none⟩) (by simp)).trans (by simp [go_sem])
    have t2 : w1.cell? ⟨w.heap.size, 2, none⟩ = some (.pointer none) := (hb1.cell (p := ⟨w.heap.size, 2, none⟩) (by simp)).trans (by simp [go_sem])
    obtain ⟨d3, d4, d5, d6, d7, df⟩ := L1.cells
    have HG : Hid (w.grownBy w1 (some L)) := hg
    have HL1 : Hid (Lim w1 L n' s' c p) := L1
    clear hg L1 hb1 c3 c4 c5 c6 c7 cf
    go_wp2
    refine bodyPost_ret (v := .tuple #[]) (by simp [results, Try.results17, go_sem]) rfl ⟨rfl, HG.out, HL1.out⟩

set_option maxHeartbeats 1000000 in
theorem age_2 (L c p : Nat) (n s n' s' D : Int) (h0 : 0 ≤ n) (h1 : n < 1000000000) (hs0 : -50000000000 ≤ s) (hs1 : s ≤ 50000000000) (h0' : 0 ≤ n') (h1' : n' < 1000000000) (hs0' : -50000000000 ≤ s') (hs1' : s' ≤ 50000000000)
    (hD : s * 1000000000 + n = s' * 1000000000 + n' + D) (hD0 : 1000000000 ≤ D) (hD1 : D < 2000000000) (w : World) (hL : Lim w L n' s' c p) :
    Calls Try.prog 17 #[.pointer (some ⟨L, 0, none⟩), .agg #[.int .u64 n, .int .i64 s, .pointer none]] w fun e w' =>
      e = .returned (.tuple #[]) ∧ w.grownBy w' (some L) ∧ ∃ c', w.heap.size ≤ c' ∧ w'.heap[c']? = some (.map #[] 0) ∧ Lim w' L n s c' c := by
  obtain ⟨c3, c4, c5, c6, c7, cf⟩ := hL.cells
  have hlt := hL.lt
  have HD : Hid (s * 1000000000 + n = s' * 1000000000 + n' + D) := hD
  have HL : Hid (Lim w L n' s' c p) := hL
  clear hD hL
  have hmm := @run_makeMap Try.prog
  go_enter Try.func17, Try.ntmps17
  go_wp2
  go_region_with (go_at_call 11; refine (sub_any n s n' s' D h0 h1 hs0 hs1 h0' h1' hs0' hs1' HD.out (by omega) (by omega) _).mono ?_; rintro e w1 ⟨rfl, hb1⟩)
  all_goals
    have hz1 := hb1.size
    simp at hz1
    have hl1 : L < w1.heap.size := by omega
    have hl2 : L < w1.heap.size + 1 := by omega
    have hl3 : w.heap.size < w1.heap.size := by omega
    have hl4 : w.heap.size < w1.heap.size + 1 := by omega
    have hg : w.grownBy w1 (some L) := grown_from hb1 ((Below.refl _ _).alloc (Nat.le_refl _) _).drew
    have L1 : Lim w1 L n' s' c p := (hb1.block L (by simp; omega)).trans (alloc_block HL.out)
    have t0 : w1.cell? ⟨w.heap.size, 0, none⟩ = some (.int .u64 n) := (hb1.cell (p := ⟨w.heap.size, 0, none⟩) (by simp)).trans (by simp [go_sem])
    have t1 : w1.cell? ⟨w.heap.size, 1, none⟩ = some (.int .i64 s) := (hb1.cell (p := ⟨w.heap.size, 1, none⟩) (by simp)).trans (by simp [go_sem])
    have t2 : w1.cell? ⟨w.heap.size, 2, none⟩ = some (.pointer none) := (hb1.cell (p := ⟨w.heap.size, 2, none⟩) (by simp)).trans (by simp [go_sem])
    obtain ⟨d3, d4, d5, d6, d7, df⟩ := L1.cells
    have HG : Hid (w.grownBy w1 (some L)) := hg
    have HL1 : Hid (Lim w1 L n' s' c p) := L1
    clear hg L1 hb1 c3 c4 c5 c6 c7 cf
    go_wp2
    go_end0
    exact ⟨rfl, grown_alloc (grown_set (grown_set (grown_set (grown_set (grown_set HG.out _) _) _) _) _) _, aged2 HG.out HL1.out⟩

set_option maxHeartbeats 1000000 in
theorem age_3 (L c p : Nat) (n s n' s' D : Int) (h0 : 0 ≤ n) (h1 : n < 1000000000) (hs0 : -50000000000 ≤ s) (hs1 : s ≤ 50000000000) (h0' : 0 ≤ n') (h1' : n' < 1000000000) (hs0' : -50000000000 ≤ s') (hs1' : s' ≤ 50000000000)
    (hD : s * 1000000000 + n = s' * 1000000000 + n' + D) (hD0 : 2000000000 ≤ D) (hD1 : D ≤ 10000000000) (w : World) (hL : Lim w L n' s' c p) :
    Calls Try.prog 17 #[.pointer (some ⟨L, 0, none⟩), .agg #[.int .u64 n, .int .i64 s, .pointer none]] w fun e w' =>
      e = .returned (.tuple #[]) ∧ w.grownBy w' (some L) ∧ ∃ c' p', w.heap.size ≤ c' ∧ w.heap.size ≤ p' ∧ w'.heap[c']? = some (.map #[] 0) ∧ w'.heap[p']? = some (.map #[] 0) ∧ Lim w' L n s c' p' := by
  obtain ⟨c3, c4, c5, c6, c7, cf⟩ := hL.cells
  have hlt := hL.lt
  have HD : Hid (s * 1000000000 + n = s' * 1000000000 + n' + D) := hD
  have HL : Hid (Lim w L n' s' c p) := hL
  clear hD hL
  have hmm := @run_makeMap Try.prog
  go_enter Try.func17, Try.ntmps17
  go_wp2
  go_region_with (go_at_call 11; refine (sub_any n s n' s' D h0 h1 hs0 hs1 h0' h1' hs0' hs1' HD.out (by omega) (by omega) _).mono ?_; rintro e w1 ⟨rfl, hb1⟩)
  all_goals
    have hz1 := hb1.size
    simp at hz1
    have hl1 : L < w1.heap.size := by omega
    have hl2 : L < w1.heap.size + 1 := by omega
    have hl3 : w.heap.size < w1.heap.size := by omega
    have hl4 : w.heap.size < w1.heap.size + 1 := by omega
    have hg : w.grownBy w1 (some L) := grown_from hb1 ((Below.refl _ _).alloc (Nat.le_refl _) _).drew
    have L1 : Lim w1 L n' s' c p := (hb1.block L (by simp; omega)).trans (alloc_block HL.out)
    have t0 : w1.cell? ⟨w.heap.size, 0, none⟩ = some (.int .u64 n) := (hb1.cell (p := ⟨w.heap.size, 0, none⟩) (by simp)).trans (by simp [go_sem])
    have t1 : w1.cell? ⟨w.heap.size, 1, none⟩ = some (.int .i64 s) := (hb1.cell (p := ⟨w.heap.size, 1, none⟩) (by simp)).trans (by simp [go_sem])
    have t2 : w1.cell? ⟨w.heap.size, 2, none⟩ = some (.pointer none) := (hb1.cell (p := ⟨w.heap.size, 2, none⟩) (by simp)).trans (by simp [go_sem])
    obtain ⟨d3, d4, d5, d6, d7, df⟩ := L1.cells
    have HG : Hid (w.grownBy w1 (some L)) := hg
    have HL1 : Hid (Lim w1 L n' s' c p) := L1
    clear hg L1 hb1 c3 c4 c5 c6 c7 cf
    go_wp2
    go_end0
    exact ⟨rfl, grown_alloc (grown_alloc (grown_set (grown_set (grown_set (grown_set (grown_set (grown_set HG.out _) _) _) _) _) _) _) _, aged3 HG.out HL1.out⟩

end Go.Proofs.Qxb6609569a
