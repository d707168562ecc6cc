/-
  zzClaims (5): the map of the rings and the row of the pointers.
-/
import Derived.Test.Qxb6609569aKeys
namespace Go.Proofs.Qxb6609569a
open Go.RowKit
set_option linter.unusedVariables false

/-- At the key of the name s the map D holds the pointer p. -/
def Good (D : DataW Unit) (s : ByteArray) (p : Option Addr) : Prop :=
  ∃ kl, keyOf Try.prog 44 (.agg #[.string ⟨#[100, 114, 111, 112]⟩, .string s]) = some kl ∧ Maps.has D kl = true ∧ ptrElem (.pointer p) = some (D.atKey kl .nil, [])

theorem good_put {D : DataW Unit} {s : ByteArray} {p : Option Addr} {kl : Lit} (hn : Maps.has D kl = false) (d : DataW Unit) (h : Good D s p) : Good (D.put kl d) s p := by
  obtain ⟨kl', hk, hh, hp⟩ := h
  have hne : kl' ≠ kl := by rintro rfl; rw [hh] at hn; cases hn
  exact ⟨kl', hk, by rw [Maps.has_put_other hne]; exact hh, by rw [Maps.atKey_put_other hne]; exact hp⟩

theorem good_new {D : DataW Unit} {s : ByteArray} {kl : Lit} (hD : Maps.IsMap D) (hk : keyOf Try.prog 44 (.agg #[.string ⟨#[100, 114, 111, 112]⟩, .string s]) = some kl) (b : Nat) : Good (D.put kl (.lit (.int .i64 b))) s (some ⟨b, 0, none⟩) :=
  ⟨kl, hk, Maps.has_put_same hD (law.key hk) _, by rw [Maps.atKey_put_same hD (law.key hk)]; exact ptrElem_new b⟩

/-- What zzClaims has made when k names are done: the map in block M, the row of pointers in block M + 1. -/
def Made (w wr : World) (len : Nat) (ss : List ByteArray) (k : Nat) : Prop :=
  Below w.heap.size w wr ∧ ∃ (D : DataW Unit) (arr : Array Value), wr.ownsMap Try.prog 44 ptrElem w.heap.size k D ∧ wr.heap[w.heap.size + 1]? = some (.cells arr 46 (0, 0)) ∧ arr.size = len ∧
    ∀ j, j < k → ∃ p, arr[j]? = some (.pointer p) ∧ Good D (ss.getD j ByteArray.empty) p

theorem Try.info46 : (Try.prog.info? 46).map (fun i => (i.zero, i.size, i.bytes)) = some (some (.pointer none), 1, 8) := by kernel_rfl

theorem made_start (w : World) (len : Nat) (ss : List ByteArray) : Made w ((w.alloc (.map #[] 0)).alloc (.cells (madeCells #[.pointer none] len) 46)) len ss 0 := by
  refine ⟨((Below.refl _ _).alloc (Nat.le_refl _) _).alloc (by simp) _, .map [], madeCells #[.pointer none] len, ?_, ?_, size_madeCells _ _, fun j hj => absurd hj (by omega)⟩
  · exact (World.ownsMap_made w Try.prog 44 ptrElem).alloc _
  · exact heap_alloc2_new _ _ _

theorem made_step {w W : World} {len k : Nat} {ss : List ByteArray} {D : DataW Unit} {arr : Array Value} {p : Option Addr} {s : ByteArray} (hk : k < len) (hbel : Below w.heap.size w W) (hown : W.ownsMap Try.prog 44 ptrElem w.heap.size (k + 1) D)
    (harr : W.heap[w.heap.size + 1]? = some (.cells arr 46 (0, 0))) (hsz : arr.size = len) (hgood : ∀ j, j < k → ∃ p, arr[j]? = some (.pointer p) ∧ Good D (ss.getD j ByteArray.empty) p) (hs : s = ss.getD k ByteArray.empty) (hnew : Good D s p) :
    Made w (W.setCell ⟨w.heap.size + 1, k, none⟩ (.pointer p)) len ss (k + 1) := by
  refine ⟨hbel.setCell (by simp) _, D, arr.setIfInBounds k (.pointer p), hown.setCell (by simp) _, set_block harr, by simp [hsz], ?_⟩
  intro j hj
  by_cases e : j = k
  · subst e
    exact ⟨p, by simp [hsz, hk], hs ▸ hnew⟩
  · obtain ⟨q, hq, hg⟩ := hgood j (by omega)
    exact ⟨q, by rw [Array.getElem?_setIfInBounds_ne (by omega)]; exact hq, hg⟩

theorem Made.alloc {w W : World} {len k : Nat} {ss : List ByteArray} (h : Made w W len ss k) (o : Obj) : Made w (W.alloc o) len ss k := by
  obtain ⟨hb, D, arr, ho, ha, r⟩ := h
  exact ⟨hb.alloc hb.size _, D, arr, ho.alloc _, alloc_block ha, r⟩

theorem row_cell {w : World} {B k : Nat} {arr : Array Value} (h : w.heap[B]? = some (.cells arr 46 (0, 0))) (hk : k < arr.size) : w.cell? ⟨B, k, none⟩ = some arr[k] ∧ w.frozen? ⟨B, k, none⟩ = false :=
  ⟨by simp [World.cell?, h], by simp [World.frozen?, h]⟩

set_option maxHeartbeats 1000000 in
theorem claims_any (a : Option Addr) (len cap b off : Nat) (ss : List ByteArray) (w : World) (hl : len ≤ 1048576) (hb : 0 < len → b < w.heap.size)
    (hidx : Idx 23 a len cap b off) (hc : ∀ k, k < len → w.cell? ⟨b, off + k, none⟩ = some (.string (ss.getD k ByteArray.empty))) (hss : ∀ k, k < len → (ss.getD k ByteArray.empty).size ≤ maxLen) :
    Calls Try.prog 5 #[.slice a len cap] w fun e w' => e = .returned (.tuple #[.map (some w.heap.size), .slice (some ⟨w.heap.size + 1, 0, none⟩) len len]) ∧ Made w w' len ss len := by
  unfold Idx at hidx
  have hmm := @run_makeMap Try.prog
  have hmk := run_make_row' (P := Try.prog) 26 46 (.pointer none) 8 Try.underlying26 Try.info46 rfl .i64 .i64 len (by omega) (by omega)
  go_enter Try.func5, Try.ntmps5
  go_wp2
  go_loopw [6] (fun i wr => ∃ k : Nat, k ≤ len ∧ i = .int .i64 k ∧ Made w wr len ss k) (fun i _ => len - (intOf i).toNat)
  case atStart => exact ⟨0, Nat.zero_le _, rfl, made_start _ _ _⟩
  case round =>
    clear hmm hmk
    obtain ⟨k, hk, rfl, hM⟩ := hrel
    by_cases hlt : k < len
    · have h1 := hidx k hlt
      have h3 := hss k hlt
      obtain ⟨kl, hkl⟩ := key_ex _ h3
      obtain ⟨hbel, D, arr, hown, harr, hsz, hgood⟩ := hM
      have h2 : wr.cell? ⟨b, off + k, none⟩ = some (.string (ss.getD k ByteArray.empty)) := (hbel.cell (p := ⟨b, off + k, none⟩) (hb (by omega))).trans (hc k hlt)
      obtain ⟨s, hs⟩ : ∃ s, s = ss.getD k ByteArray.empty := ⟨_, rfl⟩
      rw [← hs] at h2 hkl
      have HS : Hid (s = ss.getD k ByteArray.empty) := hs
      have HG : Hid (∀ j, j < k → ∃ p, arr[j]? = some (.pointer p) ∧ Good D (ss.getD j ByteArray.empty) p) := hgood
      have HK : Hid (keyOf Try.prog 44 (.agg #[.string ⟨#[100, 114, 111, 112]⟩, .string s]) = some kl) := hkl
      have HA : Hid (wr.heap[w.heap.size + 1]? = some (.cells arr 46 (0, 0))) := harr
      have HB : Hid (Below w.heap.size w wr) := hbel
      have HO : Hid (wr.ownsMap Try.prog 44 ptrElem w.heap.size k D) := hown
      have HZ : Hid (arr.size = len) := hsz
      clear hidx hc hs hgood hkl harr hbel hown h3 hss hsz
      have hs1 := HB.out.size
      go_wp2_with fail
      refine (claimant_any _ _ _).mono ?_
      rintro e w1 ⟨rfl, hb1⟩
      have hz1 := hb1.size
      have hg1 : wr.grownBy w1 none := grown_below hb1 (Nat.le_refl _)
      have hM2 : w.heap.size + 1 < wr.heap.size := lt_of_block HA.out
      have hA1 : w1.heap[w.heap.size + 1]? = some (.cells arr 46 (0, 0)) := (hg1.block _ hM2 (by simp)).trans HA.out
      have hO1 := HO.out.kept hg1 (by simp)
      have hB1 : Below w.heap.size w w1 := HB.out.trans (hb1.mono hs1)
      obtain ⟨c1, f1⟩ := row_cell hA1 (k := k) (by rw [HZ.out]; exact hlt)
      have hM1 : w.heap.size + 1 < w1.heap.size := by omega
      obtain ⟨v, ps, hrun, hv⟩ := (hO1.alloc (.cells #[.string ⟨#[100, 114, 111, 112]⟩, .string s] 44)).look_ok law Try.underlying25 (zero46 _) ptrElem_nil HK.out
      obtain ⟨p, rfl, hp⟩ := ptrElem_inv hv
      cases hp
      by_cases hhas : Maps.has D kl = true
      · rw [hhas] at hrun
        have HV : Hid (Good D s p) := ⟨kl, HK.out, hhas, hv⟩
        have HA1 : Hid (w1.heap[w.heap.size + 1]? = some (.cells arr 46 (0, 0))) := hA1
        have HO1 : Hid (w1.ownsMap Try.prog 44 ptrElem w.heap.size k D) := hO1
        have HB1 : Hid (Below w.heap.size w w1) := hB1
        clear hv hhas hA1 hO1 hB1 hg1 hb1
        go_wp2
        go_roundw
        case rel => exact ⟨k + 1, by omega, by go_num, (made_step hlt HB1.out (HO1.out.mono (Nat.le_succ _)) HA1.out HZ.out HG.out HS.out HV.out).alloc _⟩
        case measure => simp [intOf]; omega
      · have hno : Maps.has D kl = false := by simpa using hhas
        rw [hno] at hrun
        have HN : Hid (Maps.has D kl = false) := hno
        have HA1 : Hid (w1.heap[w.heap.size + 1]? = some (.cells arr 46 (0, 0))) := hA1
        have HO1 : Hid (w1.ownsMap Try.prog 44 ptrElem w.heap.size k D) := hO1
        have HB1 : Hid (Below w.heap.size w w1) := hB1
        clear hv hhas hA1 hO1 hB1 hg1 hb1 hno
        go_wp2_with (at_mapUpdate; refine wpList_mapUpdate_own _ rfl _ _ _ 25 rfl 44 46 law Try.underlying25 ptrElem w.heap.size k D rfl ((HO1.out.alloc _).alloc _) (by unfold maxLen; omega) _ _ kl rfl rfl HK.out _ [] (ptrElem_new _) ?_; intro w3 hown3 hg3; have hA3 := (hg3.block _ (lt_of_block (alloc_block (alloc_block HA1.out))) (by simp)).trans (alloc_block (alloc_block HA1.out)); obtain ⟨c3, f3⟩ := row_cell hA3 (k := k) (by rw [HZ.out]; exact hlt); have HO3 : Hid (w3.ownsMap Try.prog 44 ptrElem w.heap.size (k + 1) (D.put kl (.lit (.int .i64 ((w1.heap.size + 1 : Nat)))))) := hown3; have HA3 : Hid (w3.heap[w.heap.size + 1]? = some (.cells arr 46 (0, 0))) := hA3; have HB3 : Hid (Below w.heap.size w w3) := (((HB1.out.alloc HB1.out.size _).alloc (by have := HB1.out.size; simp; omega) _).grown hg3 (by have := HB1.out.size; simp; omega) (by intro j hj; cases hj; exact Nat.le_refl _)); clear hown3 hg3 hA3)
        go_roundw
        case rel => exact ⟨k + 1, by omega, by go_num, made_step hlt HB3.out HO3.out HA3.out HZ.out (fun j hj => by obtain ⟨q, hq, hg⟩ := HG.out j hj; exact ⟨q, hq, good_put HN.out _ hg⟩) HS.out (good_new HO1.out.isMap HK.out _)⟩
        case measure => simp [intOf]; omega
    · have hkl : k = len := by omega
      subst hkl
      go_wp2
      go_ret2
      exact ⟨rfl, hM⟩

end Go.Proofs.Qxb6609569a
