/-
  The walks: DecodeAll handed zzTakeNone and zzTakeAll.
-/
import Derived.Test.Qxb6612641aFmtFacts
import Derived.WalkKit
import Derived.WalkSpells
import Derived.RegionTactic
import Derived.Laws.CopyOwn
import Derived.Deep.OwnRows
namespace Go.Proofs.Qxb6612641aFmt
open Go.RowKit Go.Extern.Stop Go.Stop Go.Extern
set_option linter.unusedVariables false
attribute [local go_sem] call11 guard fmt0 fmt0r op3_100 op3_100w strict3 ptr36 elem36 isError36 ptr35 elem35 isError35

/-- Nothing is left: no error. -/
theorem none_empty (a : Option Addr) (len cap : Nat) (w : World) (h : len < 1) :
    Calls Tryf.prog 5 #[.slice a len cap] w fun e w' => e = .returned .nilIface ∧ Below w.heap.size w w' := by
  go_enter Tryf.func5, Tryf.ntmps5
  go_wp2
  go_ret
  exact ⟨rfl, (Below.refl _ _).alloc (Nat.le_refl _) _⟩

set_option maxHeartbeats 400000 in
/-- Something is left: an error. -/
theorem none_left (F : Interp) (a : Option Addr) (len cap : Nat) (w : World) (hF : F.answers w.tape) (hl : 0 < len) (hm : len ≤ 1048576) :
    Calls Tryf.prog 5 #[.slice a len cap] w fun e w' => (∃ x, e = .returned (.iface 36 x)) ∧ Below w.heap.size w w' := by
  have hF' := hF
  unfold Interp.answers at hF'
  go_enter Tryf.func5, Tryf.ntmps5
  go_wp2
  go_ret
  exact ⟨⟨_, rfl⟩, ((((Below.refl _ _).alloc (Nat.le_refl _) _).alloc (by simp) _).alloc (by simp; omega) _).drew⟩

/-- Everything is taken: no error. -/
theorem all_nil (w : World) : Calls Tryf.prog 6 #[.slice none 0 0] w fun e w' => e = .returned .nilIface ∧ Below w.heap.size w w' := by
  go_enter Tryf.func6, Tryf.ntmps6
  go_wp2
  go_region
  all_goals
    go_wp2
    go_ret
    exact ⟨rfl, ((Below.refl _ _).alloc (Nat.le_refl _) _).drew⟩

theorem all_some (B len : Nat) (w : World) (hl : len ≤ 1048576) : Calls Tryf.prog 6 #[.slice (some ⟨B, 0, none⟩) len len] w fun e w' => e = .returned .nilIface ∧ Below w.heap.size w w' := by
  go_enter Tryf.func6, Tryf.ntmps6
  go_wp2
  go_region
  all_goals
    go_wp2
    go_ret
    exact ⟨rfl, ((Below.refl _ _).alloc (Nat.le_refl _) _).drew⟩
theorem Tryf.info5 : (Tryf.prog.info? 5).map (fun i => (i.zero, i.size, i.bytes)) = some (some (.int .u8 0), 1, 1) := by kernel_rfl
theorem size5 : (Tryf.prog.info? 5).map (·.size) = some 1 := by kernel_rfl

theorem new_block (w : World) (o : Obj) : (w.alloc o).heap[w.heap.size]? = some o := by
  show (w.heap.push o)[w.heap.size]? = _
  simp

/-- Too many bytes: the law returns true at once. -/
theorem law_big (a : Option Addr) (len cap : Nat) (w : World) (h : len ≤ 9223372036854775807) (hb : 1048576 < len) :
    Calls Tryf.prog 3 #[.slice a len cap] w fun e w' => e = .returned (.bool true) ∧ Below w.heap.size w w' := by
  go_enter Tryf.func3, Tryf.ntmps3
  go_wp2
  go_ret
  exact ⟨rfl, Below.refl _ _⟩

/-- The nil slice. -/
theorem law_nil (w : World) : Calls Tryf.prog 3 #[.slice none 0 0] w fun e w' => e = .returned (.bool true) ∧ Below w.heap.size w w' := by
  have hq : ∀ (w : World), (binOp .neq 22 (.slice none 0 0) (.slice none 0 0)).run Tryf.prog w = .ok (.bool false) w := fun w => run_neq_slice_nil_any w _ _ none 0 0 0 0 Tryf.underlying22
  go_enter Tryf.func3, Tryf.ntmps3
  go_wp2_with (go_at_call 4; go_in)
  refine (none_empty none 0 0 _ (by omega)).mono ?_
  rintro e w1 ⟨rfl, hb1⟩
  have B1 : Hid (Below w.heap.size w w1) := hb1
  clear hb1
  go_wp2_with fail
  refine (all_nil _).mono ?_
  rintro e w2 ⟨rfl, hb2⟩
  have B2 : Hid (Below w.heap.size w w2) := B1.out.trans (hb2.mono B1.out.size)
  clear hb2
  go_wp2
  go_ret
  exact ⟨rfl, B2.out⟩

theorem copy_run (x : Addr) (len cap : Nat) (zs : List Int) (w : World) (hz : len ≤ zs.length) (hc : ∀ i, i < zs.length → w.cell? (x.add i) = some (.int .u8 (zs.getD i 0))) (hlt : 0 < len → x.block < w.heap.size) :
    ∃ w1, (∀ ty, (Builtin.copy_ #[22, 22] ty #[.slice (some ⟨w.heap.size, 0, none⟩) len len, .slice (some x) len cap]).run Tryf.prog (w.alloc (.cells (madeCells #[.int .u8 0] len) 5)) = .ok (goInt len) w1) ∧ Below w.heap.size w w1 := by
  have hb : Below w.heap.size w (w.alloc (.cells (madeCells #[.int .u8 0] len) 5)) := (Below.refl _ _).alloc (Nat.le_refl _) _
  by_cases h0 : len = 0
  · subst h0
    exact ⟨_, fun ty => run_copy_none _ 22 22 ty 5 _ _ 0 0 0 cap Tryf.underlying22 size5 (by simp), hb⟩
  · have hlen : ((zs.take len).map (Value.int .u8)).length = len := by simp; omega
    refine ⟨_, fun ty => ?_, below_setRow hb (Nat.le_refl w.heap.size) ((madeCells #[.int .u8 0] len).toList.take 0 ++ (zs.take len).map (Value.int .u8) ++ (madeCells #[.int .u8 0] len).toList.drop (0 + ((zs.take len).map (Value.int .u8)).length)).toArray⟩
    have h := run_copy_row (P := Tryf.prog) (w.alloc (.cells (madeCells #[.int .u8 0] len) 5)) 22 22 ty 5 w.heap.size 0 len len x len cap (madeCells #[.int .u8 0] len) 5 ((zs.take len).map (Value.int .u8)) Tryf.underlying22 size5 (new_block _ _) (by rw [hlen]; simp) ?_ (by rw [hlen]; simp [size_madeCells]) ?_
    · rw [hlen] at h
      rw [h, hlen]
    · intro j v hj
      have hjl : j < len := by
        have := (List.getElem?_eq_some_iff.1 hj).1
        simp at this
        omega
      have hv : v = .int .u8 (zs.getD j 0) := by
        rw [List.getElem?_map, List.getElem?_take_of_lt hjl] at hj
        rw [List.getD_eq_getElem?_getD]
        cases hzj : zs[j]? with
        | none => simp [hzj] at hj
        | some y => simp [hzj] at hj; simp [← hj]
      rw [hv]
      exact (hb.cell (p := x.add j) (by have := hlt (by omega); unfold Addr.add; split <;> exact this)).trans (hc j (by omega))
    · intro v hv
      obtain ⟨n, _, rfl⟩ := List.mem_map.1 hv
      rfl

set_option maxHeartbeats 400000 in
/-- Any other slice of at most 1 << 20 bytes. -/
theorem law_some (F : Interp) (x : Addr) (len cap : Nat) (zs : List Int) (w : World) (hF : F.answers w.tape) (hl : len ≤ 1048576) (hz : len ≤ zs.length)
    (hc : ∀ i, i < zs.length → w.cell? (x.add i) = some (.int .u8 (zs.getD i 0))) (hlt : 0 < len → x.block < w.heap.size) :
    Calls Tryf.prog 3 #[.slice (some x) len cap] w fun e w' => e = .returned (.bool true) ∧ Below w.heap.size w w' := by
  have hq : ∀ (w : World), (binOp .neq 22 (.slice (some x) len cap) (.slice none 0 0)).run Tryf.prog w = .ok (.bool true) w := fun w => run_neq_slice_nil_any w _ _ (some x) len cap 0 0 Tryf.underlying22
  have hmk := run_make_row' (P := Tryf.prog) 22 5 (.int .u8 0) 1 Tryf.underlying22 Tryf.info5 rfl .i64 .i64 len (by omega) (by omega)
  have HC : Hid (∀ i, i < zs.length → w.cell? (x.add i) = some (.int .u8 (zs.getD i 0))) := hc
  have HF : Hid (F.answers w.tape) := hF
  clear hc hF
  go_enter Tryf.func3, Tryf.ntmps3
  obtain ⟨w1, hcp, hb1⟩ := copy_run x len cap zs w hz HC.out hlt
  have B1 : Hid (Below w.heap.size w w1) := hb1
  have F1 : Hid (F.answers w1.tape) := by rw [hb1.tape]; exact HF.out
  clear hb1
  by_cases h0 : len = 0
  · have h1 : len < 1 := by omega
    clear h0
    go_wp2_with (go_at_call 4; go_in)
    refine (none_empty _ len _ _ h1).mono ?_
    rintro e w2 ⟨rfl, hb2⟩
    have B2 : Hid (Below w.heap.size w w2) := B1.out.trans (hb2.mono B1.out.size)
    clear hb2
    go_wp2_with fail
    refine (all_some _ len _ hl).mono ?_
    rintro e w3 ⟨rfl, hb3⟩
    have B3 : Hid (Below w.heap.size w w3) := B2.out.trans (hb3.mono B2.out.size)
    clear hb3
    go_wp2
    go_ret
    exact ⟨rfl, B3.out⟩
  · have hpos : 0 < len := by omega
    go_wp2_with (go_at_call 4; go_in)
    refine (none_left F _ len _ _ F1.out hpos hl).mono ?_
    rintro e w2 ⟨⟨y, rfl⟩, hb2⟩
    have B2 : Hid (Below w.heap.size w w2) := B1.out.trans (hb2.mono B1.out.size)
    clear hb2
    go_wp2_with fail
    refine (all_some _ len _ hl).mono ?_
    rintro e w3 ⟨rfl, hb3⟩
    have B3 : Hid (Below w.heap.size w w3) := B2.out.trans (hb3.mono B2.out.size)
    clear hb3
    go_wp2
    go_ret
    exact ⟨rfl, B3.out⟩
end Go.Proofs.Qxb6612641aFmt
