/-
  The law FnScannerFailIdempotentAndForgetsPosition, walked.
-/
import Derived.Test.Qxb6612520aClone
namespace Go.Proofs.Qxb6612520a
open Go.RowKit
set_option linter.unusedVariables false

theorem Row.drewN {w : World} {a : Option Addr} {len cap : Nat} {f : Nat → Int} {n : Bool} (h : Row w a len cap f n) (m : Nat) : Row (w.drewN m) a len cap f n := h

theorem below_draws {B : Nat} {a w : World} (h : Below B a w) (n : Nat) : Below B a (w.drewN n) := h.trans ⟨rfl, rfl, rfl, Nat.le_refl _, fun _ _ => rfl⟩

theorem Row.later {w : World} {a : Option Addr} {len cap : Nat} {f : Nat → Int} {n : Bool} (h : Row w a len cap f n) (A B : Obj) : Row ((w.alloc A).alloc B) a len cap f n :=
  h.below (((Below.refl _ _).alloc (Nat.le_refl _) _).alloc (by simp) _)

/-- Block S is a scanner over the slice (d, len, dc) with the closers (c, len', cc). -/
def Scn (w : World) (S : Nat) (d : Option Addr) (len dc : Nat) (x : Int) (b : Bool) (c : Option Addr) (len' cc : Nat) : Prop :=
  w.heap[S]? = some (.cells #[.slice d len dc, .int .i64 x, .bool b, .slice c len' cc] 34 (0, 0))

theorem fail16 (S : Nat) (d : Option Addr) (len dc : Nat) (x : Int) (b : Bool) (c : Option Addr) (len' cc : Nat) (w : World) (h : Scn w S d len dc x b c len' cc) :
    Calls Try.prog 16 #[.pointer (some ⟨S, 0, none⟩)] w fun e w' => e = .returned (.tuple #[]) ∧ w' = (w.setCell ⟨S, 2, none⟩ (.bool true)).setCell ⟨S, 1, none⟩ (.int .i64 len) := by
  unfold Scn at h
  have c0 : w.cell? ⟨S, 0, none⟩ = some (.slice d len dc) := by simp [World.cell?, h]
  have c1 : w.cell? ⟨S, 1, none⟩ = some (.int .i64 x) := by simp [World.cell?, h]
  have c2 : w.cell? ⟨S, 2, none⟩ = some (.bool b) := by simp [World.cell?, h]
  have cf : ∀ o, w.frozen? ⟨S, o, none⟩ = false := fun o => by simp [World.frozen?, h]
  clear h
  go_enter Try.func16, Try.ntmps16
  go_wp2
  go_end0
  exact ⟨rfl, rfl⟩

theorem fail9 (S : Nat) (d : Option Addr) (len dc : Nat) (x : Int) (b : Bool) (c : Option Addr) (len' cc : Nat) (w : World) (h : Scn w S d len dc x b c len' cc) :
    Calls Try.prog 9 #[.pointer (some ⟨S, 0, none⟩)] w fun e w' => e = .returned (.tuple #[]) ∧ w' = (w.setCell ⟨S, 2, none⟩ (.bool true)).setCell ⟨S, 1, none⟩ (.int .i64 len) := by
  go_enter Try.func9, Try.ntmps9
  go_wp2_with fail
  refine (fail16 S d len dc x b c len' cc w h).mono ?_
  rintro e w' ⟨rfl, rfl⟩
  go_wp2
  go_end0
  exact ⟨rfl, rfl⟩

set_option maxRecDepth 1000000 in
set_option maxHeartbeats 1000000 in
theorem scan_main (a0 : Option Addr) (len0 cap0 : Nat) (f0 : Nat → Int) (n0 : Bool) (a1 : Int) (a2 : Bool) (a3 : Int) (a4 : Bool) (a5 : Option Addr) (len5 cap5 : Nat) (f5 : Nat → Int) (n5 : Bool) (w : World)
    (hsum : len0 + len5 ≤ 1048576) (r0 : 0 ≤ a1) (r1 : a1 ≤ len0) (r2 : 0 ≤ a3) (r3 : a3 ≤ len0) (hr0 : Row w a0 len0 cap0 f0 n0) (hr5 : Row w a5 len5 cap5 f5 n5) :
    Calls Try.prog 4 #[.slice a0 len0 cap0, .int .i64 a1, .bool a2, .int .i64 a3, .bool a4, .slice a5 len5 cap5] w fun e w' => e = .returned (.bool true) ∧ Below w.heap.size w w' := by
  have g0 : len0 ≤ 1048576 := by omega
  have g5 : len5 ≤ 1048576 := by omega
  have R0 : Hid (Row w a0 len0 cap0 f0 n0) := hr0
  have R5 : Hid (Row w a5 len5 cap5 f5 n5) := hr5
  clear hr0 hr5
  go_enter Try.func4, Try.ntmps4
  go_wp2_with (go_at_call 6; go_in)
  refine (clone_any a0 len0 cap0 f0 n0 _ g0 R0.out).mono ?_
  rintro e w1 ⟨hb1, d, dc, rfl, hd⟩
  have D1 : Hid (Row w1 d len0 dc f0 n0) := hd
  have B1 : Hid (Below w.heap.size w w1) := hb1
  have Q5 : Hid (Row w1 a5 len5 cap5 f5 n5) := R5.out.below hb1
  clear hd hb1
  go_wp2_with fail
  refine (clone_any a5 len5 cap5 f5 n5 _ g5 Q5.out).mono ?_
  rintro e w2 ⟨hb2, c, cc, rfl, hc⟩
  have C2 : Hid (Row w2 c len5 cc f5 n5) := hc
  have D2 : Hid (Row w2 d len0 dc f0 n0) := D1.out.below hb2
  have B2 : Hid (Below w.heap.size w w2) := B1.out.trans (hb2.mono B1.out.size)
  clear hc hb2 D1 B1 Q5 R0 R5
  go_wp2_with fail
  refine (clone_any d len0 dc f0 n0 _ g0 D2.out).mono ?_
  rintro e w3 ⟨hb3, d1, dc1, rfl, hd⟩
  have X3 : Hid (Row w3 d1 len0 dc1 f0 n0) := hd
  have C3 : Hid (Row w3 c len5 cc f5 n5) := C2.out.below hb3
  have D3 : Hid (Row w3 d len0 dc f0 n0) := D2.out.below hb3
  have B3 : Hid (Below w.heap.size w w3) := B2.out.trans (hb3.mono B2.out.size)
  clear hd hb3 C2 D2 B2
  go_wp2_with fail
  refine (clone_any c len5 cc f5 n5 _ g5 C3.out).mono ?_
  rintro e w4 ⟨hb4, c1, cc1, rfl, hd⟩
  have Y4 : Hid (Row w4 c1 len5 cc1 f5 n5) := hd
  have X4 : Hid (Row w4 d1 len0 dc1 f0 n0) := X3.out.below hb4
  have C4 : Hid (Row w4 c len5 cc f5 n5) := C3.out.below hb4
  have D4 : Hid (Row w4 d len0 dc f0 n0) := D3.out.below hb4
  have B4 : Hid (Below w.heap.size w w4) := B3.out.trans (hb4.mono B3.out.size)
  clear hd hb4 C3 D3 B3 X3
  go_wp2_with fail
  refine (clone_any d len0 dc f0 n0 _ g0 D4.out).mono ?_
  rintro e w5 ⟨hb5, d2, dc2, rfl, hd⟩
  have U5 : Hid (Row w5 d2 len0 dc2 f0 n0) := hd
  have Y5 : Hid (Row w5 c1 len5 cc1 f5 n5) := Y4.out.below hb5
  have X5 : Hid (Row w5 d1 len0 dc1 f0 n0) := X4.out.below hb5
  have C5 : Hid (Row w5 c len5 cc f5 n5) := C4.out.below hb5
  have D5 : Hid (Row w5 d len0 dc f0 n0) := D4.out.below hb5
  have B5 : Hid (Below w.heap.size w w5) := B4.out.trans (hb5.mono B4.out.size)
  clear hd hb5 C4 D4 B4 X4 Y4
  go_wp2_with fail
  refine (clone_any c len5 cc f5 n5 _ g5 C5.out).mono ?_
  rintro e w6 ⟨hb6, c2, cc2, rfl, hd⟩
  have V6 : Hid (Row w6 c2 len5 cc2 f5 n5) := hd
  have U6 : Hid (Row w6 d2 len0 dc2 f0 n0) := U5.out.below hb6
  have Y6 : Hid (Row w6 c1 len5 cc1 f5 n5) := Y5.out.below hb6
  have X6 : Hid (Row w6 d1 len0 dc1 f0 n0) := X5.out.below hb6
  have C6 : Hid (Row w6 c len5 cc f5 n5) := C5.out.below hb6
  have D6 : Hid (Row w6 d len0 dc f0 n0) := D5.out.below hb6
  have B6 : Hid (Below w.heap.size w w6) := B5.out.trans (hb6.mono B5.out.size)
  clear hd hb6 C5 D5 B5 X5 Y5 U5
  go_wp2_with (go_at_call 8; go_in)
  refine (fail9 _ d1 len0 dc1 a1 a2 c1 len5 cc1 _ (new_block _ _)).mono ?_
  rintro e w' ⟨rfl, rfl⟩
  go_wp2_with fail
  refine (fail9 _ d1 len0 dc1 len0 true c1 len5 cc1 _ (new_block _ _)).mono ?_
  rintro e w' ⟨rfl, rfl⟩
  go_wp2_with (go_at_call 8; go_in)
  refine (fail9 _ d2 len0 dc2 a3 a4 c2 len5 cc2 _ (heap_alloc2_new _ _ _)).mono ?_
  rintro e w' ⟨rfl, rfl⟩
  go_wp2_with (first | (go_at_call 10; go_in) | (go_at_call 11; go_in) | (go_at_call 13; go_in) | (go_at_call 14; go_in))
  refine (same_any d1 d len0 dc1 dc f0 n0 _ g0 (X6.out.later _ _) (D6.out.later _ _)).mono ?_
  rintro e w' ⟨rfl, m1, rfl⟩
  go_wp2_with (first | (go_at_call 13; go_in) | (go_at_call 14; go_in))
  refine (same_any d2 d len0 dc2 dc f0 n0 _ g0 ((U6.out.later _ _).drewN _) ((D6.out.later _ _).drewN _)).mono ?_
  rintro e w' ⟨rfl, m2, rfl⟩
  go_wp2_with (first | (go_at_call 13; go_in) | (go_at_call 14; go_in))
  refine (same_any c1 c len5 cc1 cc f5 n5 _ g5 ((Y6.out.later _ _).drewN _) ((C6.out.later _ _).drewN _)).mono ?_
  rintro e w' ⟨rfl, m3, rfl⟩
  go_wp2_with (first | (go_at_call 13; go_in) | (go_at_call 14; go_in))
  refine (same_any c2 c len5 cc2 cc f5 n5 _ g5 ((V6.out.later _ _).drewN _) ((C6.out.later _ _).drewN _)).mono ?_
  rintro e w' ⟨rfl, m4, rfl⟩
  go_wp2
  go_ret
  exact ⟨rfl, below_draws ((B6.out.alloc B6.out.size _).alloc (by have := B6.out.size; simp; omega) _) _⟩

set_option maxRecDepth 1000000 in
set_option maxHeartbeats 1000000 in
/-- Too many bytes: the law returns true at once. -/
theorem scan_big (a0 : Option Addr) (len0 cap0 : Nat) (a1 : Int) (a2 : Bool) (a3 : Int) (a4 : Bool) (a5 : Option Addr) (len5 cap5 : Nat) (w : World)
    (h0 : len0 ≤ 9223372036854775807) (h5 : len5 ≤ 9223372036854775807) (hsum : 1048576 < len0 + len5) :
    Calls Try.prog 4 #[.slice a0 len0 cap0, .int .i64 a1, .bool a2, .int .i64 a3, .bool a4, .slice a5 len5 cap5] w fun e w' => e = .returned (.bool true) ∧ Below w.heap.size w w' := by
  rcases (show 1048576 < len0 ∨ (len0 ≤ 1048576 ∧ 1048576 < len5) ∨ (len0 ≤ 1048576 ∧ len5 ≤ 1048576) by omega) with h | ⟨h, h'⟩ | ⟨h, h'⟩
  all_goals
    go_enter Try.func4, Try.ntmps4
    go_wp2
    go_ret
    exact ⟨rfl, Below.refl _ _⟩

set_option maxRecDepth 1000000 in
set_option maxHeartbeats 1000000 in
/-- A place outside the data: the law returns true at once. -/
theorem scan_out (a0 : Option Addr) (len0 cap0 : Nat) (a1 : Int) (a2 : Bool) (a3 : Int) (a4 : Bool) (a5 : Option Addr) (len5 cap5 : Nat) (w : World)
    (hsum : len0 + len5 ≤ 1048576) (hout : ¬ (0 ≤ a1 ∧ a1 ≤ len0 ∧ 0 ≤ a3 ∧ a3 ≤ len0)) :
    Calls Try.prog 4 #[.slice a0 len0 cap0, .int .i64 a1, .bool a2, .int .i64 a3, .bool a4, .slice a5 len5 cap5] w fun e w' => e = .returned (.bool true) ∧ Below w.heap.size w w' := by
  have g0 : len0 ≤ 1048576 := by omega
  have g5 : len5 ≤ 1048576 := by omega
  rcases (show a1 < 0 ∨ (0 ≤ a1 ∧ len0 < a1) ∨ (0 ≤ a1 ∧ a1 ≤ len0 ∧ a3 < 0) ∨ (0 ≤ a1 ∧ a1 ≤ len0 ∧ 0 ≤ a3 ∧ len0 < a3) by omega) with h | ⟨h, h'⟩ | ⟨h, h', h''⟩ | ⟨h, h', h'', h3⟩
  all_goals
    clear hout
    go_enter Try.func4, Try.ntmps4
    go_wp2
    go_ret
    exact ⟨rfl, Below.refl _ _⟩

end Go.Proofs.Qxb6612520a
