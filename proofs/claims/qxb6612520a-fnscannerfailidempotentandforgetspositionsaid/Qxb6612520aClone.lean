/-
  cloneBytesB1 (7) and sameBytesB1 (12), by contracts. A slice of bytes is told by 'Row': nil or not; its index operation; its cells.
-/
import Derived.Test.Qxb6612520aRows
import Derived.WalkKit
import Derived.WalkSpells
import Derived.Deep.OwnRows
import Derived.BigQuiet
import Derived.Deep.QuietTactic
namespace Go.Proofs.Qxb6612520a
open Go.RowKit
set_option linter.unusedVariables false

/-- Each index below the length leads to a cell of the row at (b, off). -/
def Idx (t : TypeId) (a : Option Addr) (len cap b off : Nat) : Prop :=
  ∀ k : Nat, k < len → ∀ w, (Instr.indexAt t (.slice a len cap) (.int .i64 k)).run Try.prog w = .ok (.pointer (some ⟨b, off + k, none⟩)) w

theorem cells5 : Try.prog.cellsOf 5 = 1 := by kernel_rfl

theorem idx_mk {t e : TypeId} (ht : Try.prog.underlying t = some (.slice e)) (he : Try.prog.cellsOf e = 1) (b off len cap : Nat) (hm : len ≤ maxLen) : Idx t (some ⟨b, off, none⟩) len cap b off := by
  intro k hk w
  have h1 : Try.prog.elem t = e := by simp [Program.elem, ht]
  rw [run_indexAt_slice (h := by rw [h1]; exact ht)]
  unfold maxLen at hm
  have hs : (sizeOf e).run Try.prog w = .ok 1 w := by
    obtain ⟨i, hi⟩ : ∃ i, Try.prog.info? e = some i := by
      cases hh : Try.prog.info? e with
      | none => simp [Program.cellsOf, hh] at he
      | some i => exact ⟨i, rfl⟩
    simp only [Program.cellsOf, hi, Option.map_some, Option.getD_some] at he
    simp [sizeOf, typeInfo, hi, he]
  rw [if_pos (by omega), h1, hs]
  simp [Addr.add, Result.andThen]

/-- The slice (a, len, cap) reads f 0, .., f (len - 1) in w; it is nil just if n. -/
def Row (w : World) (a : Option Addr) (len cap : Nat) (f : Nat → Int) (n : Bool) : Prop :=
  a.isNone = n ∧ (n = true → len = 0 ∧ cap = 0) ∧ ∃ b off, (0 < len → b < w.heap.size) ∧ Idx 23 a len cap b off ∧ ∀ k, k < len → w.cell? ⟨b, off + k, none⟩ = some (.int .u8 (f k))

theorem Row.below {w w' : World} {a : Option Addr} {len cap : Nat} {f : Nat → Int} {n : Bool} (h : Row w a len cap f n) (hb : Below w.heap.size w w') : Row w' a len cap f n := by
  obtain ⟨h1, h2, b, off, h3, h4, h5⟩ := h
  exact ⟨h1, h2, b, off, fun h => Nat.lt_of_lt_of_le (h3 h) hb.size, h4, fun k hk => (hb.cell (p := ⟨b, off + k, none⟩) (h3 (by omega))).trans (h5 k hk)⟩

theorem row_nil (w : World) (f : Nat → Int) : Row w none 0 0 f true := ⟨rfl, fun _ => ⟨rfl, rfl⟩, 0, 0, fun h => absurd h (by omega), fun k hk => absurd hk (by omega), fun k hk => absurd hk (by omega)⟩

theorem lt_block {w : World} {b : Nat} {o : Obj} (h : w.heap[b]? = some o) : b < w.heap.size := lt_of_block h

theorem row_new {w : World} {B len : Nat} {arr : Array Value} {f : Nat → Int} (hm : len ≤ maxLen) (h : w.heap[B]? = some (.cells arr 5 (0, 0))) (hf : ∀ k, k < len → arr[k]? = some (.int .u8 (f k))) : Row w (some ⟨B, 0, none⟩) len len f false :=
  ⟨rfl, fun x => (by cases x), B, 0, fun _ => lt_of_block h, idx_mk Try.underlying23 cells5 B 0 len len hm, fun k hk => by simp [World.cell?, h, hf k hk]⟩

theorem set_block {w : World} {b i : Nat} {arr : Array Value} {t : TypeId} {v : Value} (h : w.heap[b]? = some (.cells arr t (0, 0))) : (w.setCell ⟨b, i, none⟩ v).heap[b]? = some (.cells (arr.setIfInBounds i v) t (0, 0)) := by
  have hlt := lt_of_block h
  have h' : w.heap[b] = .cells arr t (0, 0) := by simpa [Array.getElem?_eq_getElem hlt] using h
  show (w.heap.modify b _)[b]? = _
  rw [Array.getElem?_eq_getElem (by simpa using hlt), Array.getElem_modify_self, h']
  rfl
theorem new_block (w : World) (o : Obj) : (w.alloc o).heap[w.heap.size]? = some o := by
  show (w.heap.push o)[w.heap.size]? = _
  simp
theorem row_cell {w : World} {B k : Nat} {t : TypeId} {arr : Array Value} (h : w.heap[B]? = some (.cells arr t (0, 0))) (hk : k < arr.size) : w.cell? ⟨B, k, none⟩ = some arr[k] ∧ w.frozen? ⟨B, k, none⟩ = false :=
  ⟨by simp [World.cell?, h], by simp [World.frozen?, h]⟩

theorem Try.info5 : (Try.prog.info? 5).map (fun i => (i.zero, i.size, i.bytes)) = some (some (.int .u8 0), 1, 1) := by kernel_rfl

/-- What a clone has copied when k bytes are done. -/
def Copied (w wr : World) (len : Nat) (f : Nat → Int) (k : Nat) : Prop :=
  Below w.heap.size w wr ∧ ∃ arr, wr.heap[w.heap.size]? = some (.cells arr 5 (0, 0)) ∧ arr.size = len ∧ ∀ j, j < k → arr[j]? = some (.int .u8 (f j))

theorem copied_step {w wr : World} {len k : Nat} {f : Nat → Int} (hk : k < len) (h : Copied w wr len f k) : Copied w (wr.setCell ⟨w.heap.size, k, none⟩ (.int .u8 (f k))) len f (k + 1) := by
  obtain ⟨hb, arr, ha, hs, hf⟩ := h
  refine ⟨hb.setCell (by simp) _, arr.setIfInBounds k (.int .u8 (f k)), set_block ha, by simp [hs], ?_⟩
  intro j hj
  by_cases e : j = k
  · subst e; simp [hs, hk]
  · rw [Array.getElem?_setIfInBounds_ne (by omega)]; exact hf j (by omega)

set_option maxHeartbeats 800000 in
theorem clone_any (a : Option Addr) (len cap : Nat) (f : Nat → Int) (n : Bool) (w : World) (hl : len ≤ 1048576) (hr : Row w a len cap f n) :
    Calls Try.prog 7 #[.slice a len cap] w fun e w' => Below w.heap.size w w' ∧ ∃ a' cap', e = .returned (.slice a' len cap') ∧ Row w' a' len cap' f n := by
  have hq : ∀ (w : World), (binOp .eql 23 (.slice a len cap) (.slice none 0 0)).run Try.prog w = .ok (.bool a.isNone) w := fun w => Lib.run_eql_slice_nil w _ _ a len cap 0 0 Try.underlying23
  obtain ⟨hn, hnil, b, off, hb, hidx, hc⟩ := hr
  cases n
  · have hmk := run_make_row' (P := Try.prog) 23 5 (.int .u8 0) 1 Try.underlying23 Try.info5 rfl .i64 .i64 len (by omega) (by omega)
    have HI : Hid (Idx 23 a len cap b off) := hidx
    have HC : Hid (∀ k, k < len → w.cell? ⟨b, off + k, none⟩ = some (.int .u8 (f k))) := hc
    clear hnil hidx hc
    go_enter Try.func7, Try.ntmps7
    go_wp2
    go_loopw [4] (fun i wr => ∃ k : Nat, k ≤ len ∧ i = .int .i64 k ∧ Copied w wr len f k) (fun i _ => len - (intOf i).toNat)
    case atStart => exact ⟨0, Nat.zero_le _, rfl, (Below.refl _ _).alloc (Nat.le_refl _) _, _, new_block _ _, size_madeCells _ _, fun j hj => absurd hj (by omega)⟩
    case round =>
      clear hmk hq
      obtain ⟨k, hk, rfl, hM⟩ := hrel
      by_cases hlt : k < len
      · have h1 := HI.out k hlt
        have hbl := hb (by omega)
        have h2 : wr.cell? ⟨b, off + k, none⟩ = some (.int .u8 (f k)) := (hM.1.cell (p := ⟨b, off + k, none⟩) hbl).trans (HC.out k hlt)
        have HM : Hid (Copied w wr len f k) := hM
        obtain ⟨_, arr, ha, hs, _⟩ := hM
        obtain ⟨c1, f1⟩ := row_cell ha (k := k) (by omega)
        clear ha
        go_wp2
        go_roundw
        case rel => exact ⟨k + 1, by omega, by go_num, copied_step hlt HM.out⟩
        case measure => simp [intOf]; omega
      · have hkl : k = len := by omega
        subst hkl
        go_wp2
        go_ret
        obtain ⟨hb', arr, ha, hs, hf⟩ := hM
        exact ⟨hb', _, _, rfl, row_new (by unfold maxLen; omega) ha hf⟩
  · obtain ⟨rfl, rfl⟩ := hnil rfl
    have ha : a = none := by simpa using hn
    subst ha
    go_enter Try.func7, Try.ntmps7
    go_wp2
    go_ret
    exact ⟨Below.refl _ _, none, 0, rfl, row_nil _ _⟩

set_option maxHeartbeats 800000 in
theorem same_any (a a' : Option Addr) (len cap cap' : Nat) (f : Nat → Int) (n : Bool) (w : World) (hl : len ≤ 1048576) (hr : Row w a len cap f n) (hr' : Row w a' len cap' f n) :
    Calls Try.prog 12 #[.slice a len cap, .slice a' len cap'] w fun e w' => e = .returned (.bool true) ∧ ∃ m, w' = w.drewN m := by
  have hq : ∀ (w : World), (binOp .eql 23 (.slice a len cap) (.slice none 0 0)).run Try.prog w = .ok (.bool a.isNone) w := fun w => Lib.run_eql_slice_nil w _ _ a len cap 0 0 Try.underlying23
  have hq' : ∀ (w : World), (binOp .eql 23 (.slice a' len cap') (.slice none 0 0)).run Try.prog w = .ok (.bool a'.isNone) w := fun w => Lib.run_eql_slice_nil w _ _ a' len cap' 0 0 Try.underlying23
  obtain ⟨hn, _, b, off, hb, hidx, hc⟩ := hr
  obtain ⟨hn', _, b', off', hb', hidx', hc'⟩ := hr'
  have HI : Hid (Idx 23 a len cap b off) := hidx
  have HC : Hid (∀ k, k < len → w.cell? ⟨b, off + k, none⟩ = some (.int .u8 (f k))) := hc
  have HI' : Hid (Idx 23 a' len cap' b' off') := hidx'
  have HC' : Hid (∀ k, k < len → w.cell? ⟨b', off' + k, none⟩ = some (.int .u8 (f k))) := hc'
  rw [hn] at hq
  rw [hn'] at hq'
  clear hidx hc hidx' hc' hb hb' hn hn'
  go_enter Try.func12, Try.ntmps12
  go_wp2
  go_loopw [5] (fun i wr => ∃ k : Nat, k ≤ len ∧ i = .int .i64 k ∧ ∃ m, wr = w.drewN m) (fun i _ => len - (intOf i).toNat)
  case atStart => exact ⟨0, Nat.zero_le _, rfl, 0, rfl⟩
  case round =>
    obtain ⟨k, hk, rfl, m, rfl⟩ := hrel
    clear hq hq'
    by_cases hlt : k < len
    · have h1 := HI.out k hlt
      have h2 := HC.out k hlt
      have h1' := HI'.out k hlt
      have h2' := HC'.out k hlt
      go_wp2
      go_quiet (fail)
      go_wp2
      go_roundw
      case rel => exact ⟨k + 1, by omega, by go_num, _, rfl⟩
      case measure => simp [intOf]; omega
    · go_wp2
      go_ret
      exact ⟨rfl, m, rfl⟩

end Go.Proofs.Qxb6612520a
