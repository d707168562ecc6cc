/-
  The law FnNotPlainASCIIMatchesPrintableTable: the table as a constant, the callees' contract, the walk.
-/
import Derived.Test.Qxb6612520aRows
import Derived.WalkKit
namespace Go.Proofs.Qxb6612520a.fnNotPlainASCIIMatchesPrintableTable
open Go.RowKit

def npB (c : Int) : Bool := decide (c < 32 ∨ 126 < c ∨ c = 34 ∨ c = 92)
theorem np_yes {c : Int} (h : c < 32 ∨ 126 < c ∨ c = 34 ∨ c = 92) : npB c = true := decide_eq_true h
theorem np_no {c : Int} (h : ¬ (c < 32 ∨ 126 < c ∨ c = 34 ∨ c = 92)) : npB c = false := decide_eq_false h

theorem ret_b {a b : Bool} (h : a = b) : Ending.returned (.bool a) = .returned (.bool b) := by rw [h]
theorem np_eq (c : Int) : (decide (c < 32) || decide (126 < c) || c == 34 || c == 92) = npB c := by
  unfold npB
  rw [Bool.eq_iff_iff]
  simp
  omega

theorem np_any (c : Int) (w : World) : Calls Try.prog 15 #[.int .i32 c] w fun e w' => e = .returned (.bool (npB c)) ∧ w' = w := by
  go_enter Try.func15, Try.ntmps15
  go_wp2
  · go_ret
    exact ⟨ret_b (np_yes (by omega)).symm, rfl⟩
  · go_ret
    exact ⟨ret_b (np_eq c), rfl⟩
  · go_ret
    exact ⟨ret_b (np_yes (by omega)).symm, rfl⟩
  · go_ret
    exact ⟨ret_b (np_yes (by omega)).symm, rfl⟩

theorem zz_any (c : Int) (w : World) : Calls Try.prog 5 #[.int .i32 c] w fun e w' => e = .returned (.bool (npB c)) ∧ w' = w := by
  go_enter Try.func5, Try.ntmps5
  go_wp2_with fail
  refine (np_any _ _).mono ?_
  rintro e w' ⟨rfl, rfl⟩
  go_wp2
  go_ret
  exact ⟨rfl, rfl⟩

/-- The table's bytes, as the translation spells them. -/
def tbl : ByteArray := ⟨([32, 33, 35, 36, 37, 38, 39, 40, 41, 42, 43, 44, 45, 46, 47, 48, 49, 50, 51, 52, 53, 54, 55, 56, 57, 58, 59, 60, 61, 62, 63, 64, 65, 66, 67, 68, 69, 70, 71, 72, 73, 74, 75, 76, 77, 78].append [79, 80, 81, 82, 83, 84, 85, 86, 87, 88, 89, 90, 91, 93, 94, 95, 96, 97, 98, 99, 100, 101, 102, 103, 104, 105, 106, 107, 108, 109, 110, 111, 112, 113, 114, 115, 116, 117, 118, 119, 120, 121, 122, 123, 124, 125, 126]).toArray⟩
theorem tbl_eq : (⟨([32, 33, 35, 36, 37, 38, 39, 40, 41, 42, 43, 44, 45, 46, 47, 48, 49, 50, 51, 52, 53, 54, 55, 56, 57, 58, 59, 60, 61, 62, 63, 64, 65, 66, 67, 68, 69, 70, 71, 72, 73, 74, 75, 76, 77, 78].append [79, 80, 81, 82, 83, 84, 85, 86, 87, 88, 89, 90, 91, 93, 94, 95, 96, 97, 98, 99, 100, 101, 102, 103, 104, 105, 106, 107, 108, 109, 110, 111, 112, 113, 114, 115, 116, 117, 118, 119, 120, 121, 122, 123, 124, 125, 126]).toArray⟩ : ByteArray) = tbl := rfl

theorem wrap_byte (b : UInt8) : wrap32 (b.toNat : Int) = (b.toNat : Int) := by
  have := b.toNat_lt
  unfold wrap32
  omega

/-- Is c among the first k bytes of the table? -/
def inB (c : Int) (k : Nat) : Bool := (tbl.data.toList.take k).any (fun b => (b.toNat : Int) == c)

theorem in_step (c : Int) {k : Nat} (h : k < tbl.size) : inB c (k + 1) = (inB c k || ((tbl[k].toNat : Int) == c)) := by
  unfold inB
  have e : tbl.data.toList.take (k + 1) = tbl.data.toList.take k ++ [tbl[k]] := by
    rw [List.take_succ_eq_append_getElem (by simpa using h)]; rfl
  rw [e, List.any_append]
  simp

/-- The whole table: just the printable characters without the quote and the backslash. -/
theorem in_small : ∀ n : Fin 127, inB ((n.val : Nat) : Int) tbl.size = !npB ((n.val : Nat) : Int) := by decide +kernel
theorem tbl_small : ∀ b ∈ tbl.data.toList, b.toNat < 127 := by decide +kernel
theorem in_all (c : Int) : inB c tbl.size = !npB c := by
  by_cases h : 0 ≤ c ∧ c < 127
  · obtain ⟨n, rfl⟩ : ∃ n : Nat, c = n := ⟨c.toNat, by omega⟩
    exact in_small ⟨n, by omega⟩
  · rw [np_yes (by omega)]
    unfold inB
    rw [Bool.not_true, List.any_eq_false]
    intro b hb
    have hs := tbl_small b (List.mem_of_mem_take hb)
    simp
    omega

set_option maxHeartbeats 400000 in
theorem walk (a0 : Int) (_w0 : (Lit.int .i32 a0).wf = true) (w : World) :
    Calls Try.prog 3 #[.int .i32 a0] w fun e w' => e = .returned (.bool true) ∧ Grown w w' := by
  have hsz : tbl.size ≤ 93 := by decide
  go_enter Try.func3, Try.ntmps3
  go_wp2
  rw [tbl_eq]
  go_loop [4, 5] (fun x i => ∃ k : Nat, k ≤ tbl.size ∧ i = .int .i64 k ∧ x = .bool (inB a0 k)) (fun _ i => tbl.size - (intOf i).toNat)
  case atStart => exact ⟨0, Nat.zero_le _, rfl, rfl⟩
  case round =>
    obtain ⟨k, hk, rfl, rfl⟩ := hrel
    by_cases hlt : k < tbl.size
    · have hst := in_step a0 hlt
      have HS : Hid (inB a0 (k + 1) = (inB a0 k || ((tbl[k].toNat : Int) == a0))) := hst
      clear hst
      go_wp2
      · have ht : (wrap32 (tbl[k].toNat : Int) == a0) = true := by assumption
        rw [wrap_byte] at ht
        go_round
        case rel => exact ⟨k + 1, by omega, by go_num, by rw [HS.out, ht, Bool.or_true]⟩
        case measure => simp [intOf]; omega
      · have ht : (wrap32 (tbl[k].toNat : Int) == a0) = false := by assumption
        rw [wrap_byte] at ht
        go_round
        case rel => exact ⟨k + 1, by omega, by go_num, by rw [HS.out, ht, Bool.or_false]⟩
        case measure => simp [intOf]; omega
    · go_wp2_with fail
      refine (zz_any _ _).mono ?_
      rintro e w' ⟨rfl, rfl⟩
      go_wp2
      go_ret
      have hkk : k = tbl.size := by omega
      subst hkk
      exact ⟨ret_b (by rw [in_all]; simp), Grown.refl _⟩
end Go.Proofs.Qxb6612520a.fnNotPlainASCIIMatchesPrintableTable
