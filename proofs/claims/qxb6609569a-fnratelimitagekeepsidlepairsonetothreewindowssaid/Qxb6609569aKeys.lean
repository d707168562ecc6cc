/-
  The map of the claims: how its keys and its elements read.
-/
import Derived.Test.Qxb6609569aZz
import Derived.DeepKeys4
import Derived.Deep.OwnRows
namespace Go.Proofs.Qxb6609569a
open Go.RowKit
set_option linter.unusedVariables false

theorem Try.laidOut : laidOutB Try.prog = true := by kernel_rfl
theorem row44 : (44 : TypeId) < Try.prog.types.size := of_decide_eq_true (by kernel_rfl)
theorem wide44 : (match Try.prog.underlying 44 with | some (.array _ _) | some (.struct _) => true | _ => false) = true := by kernel_rfl
theorem law : Maps.Keyed Try.prog 44 := Maps.Keyed.of_law (deep_law_laid Try.laidOut (m := 3) (by omega) row44 (by kernel_rfl) wide44)

/-- How an element reads: nil, or the head of a block. -/
def ptrElem : Value → Option (DataW Unit × List MemPlace)
  | .pointer none => some (.nil, [])
  | .pointer (some a) => if a.off = 0 ∧ a.spot = none then some (.lit (.int .i64 a.block), []) else none
  | _ => none

theorem ptrElem_nil : ptrElem (.pointer none) = some (.nil, []) := rfl
theorem ptrElem_new (b : Nat) : ptrElem (.pointer (some ⟨b, 0, none⟩)) = some (.lit (.int .i64 b), []) := by simp [ptrElem]
theorem ptrElem_inv {v : Value} {z : DataW Unit × List MemPlace} (h : ptrElem v = some z) : ∃ a, v = .pointer a ∧ z.2 = [] := by
  unfold ptrElem at h
  split at h
  · cases h; exact ⟨_, rfl, rfl⟩
  · split at h
    · cases h; exact ⟨_, rfl, rfl⟩
    · cases h
  · cases h
theorem ptrElem_inj {a c : Option Addr} {z : DataW Unit × List MemPlace} (h : ptrElem (.pointer a) = some z) (h' : ptrElem (.pointer c) = some z) : a = c := by
  cases a with
  | none =>
    cases c with
    | none => rfl
    | some y =>
      simp [ptrElem] at h h'
      obtain ⟨_, h'⟩ := h'
      rw [← h] at h'
      cases h'
  | some x =>
    cases c with
    | none =>
      simp [ptrElem] at h h'
      obtain ⟨_, h⟩ := h
      rw [← h'] at h
      cases h
    | some y =>
      simp [ptrElem] at h h'
      obtain ⟨⟨x1, x2⟩, h⟩ := h
      obtain ⟨⟨y1, y2⟩, h'⟩ := h'
      rw [← h] at h'
      simp at h'
      cases x; cases y
      simp_all
      omega

theorem zero46 (w : World) : (zeroValue 46).run Try.prog w = .ok (.pointer none) w := by kernel_rfl

theorem keyType44 : Try.prog.keyType 44 = true := by kernel_rfl
theorem cells44 : Try.prog.cellsOf 44 = 2 := by kernel_rfl
theorem cells9 : Try.prog.cellsOf 9 = 1 := by kernel_rfl
theorem types_pos : (1 : Nat) ≤ Try.prog.types.size := of_decide_eq_true (by kernel_rfl)

theorem key_gen {P : Program} {k t : TypeId} {f0 f1 : Field} (hu : P.underlying k = some (.struct #[f0, f1])) (h0 : f0.type = t) (h1 : f1.type = t) (o0 : f0.offset = 0) (o1 : f1.offset = 1) (n0 : (f0.name != "_") = true) (n1 : (f1.name != "_") = true)
    (ht : P.underlying t = some .string) (ck : P.cellsOf k = 2) (ct : P.cellsOf t = 1) (hkt : P.keyType k = true) (hty : 1 ≤ P.types.size) (a b : ByteArray) (ha : a.size ≤ maxLen) (hb : b.size ≤ maxLen) :
    ∃ kl, keyOf P k (.agg #[.string a, .string b]) = some kl := by
  have hf : (Value.agg #[.string a, .string b]).formed P k = true := by simp [Value.formed, hu, ck]
  obtain ⟨d, hd⟩ : ∃ d, P.types.size = d + 1 := ⟨P.types.size - 1, by omega⟩
  simp only [keyOf, hu, hkt, hf, hd, Program.keyLits, Value.cells]
  simp [ht, ct, ck, ha, hb, h0, h1, o0, o1, n0, n1]

theorem key_ex (s : ByteArray) (hs : s.size ≤ maxLen) : ∃ kl, keyOf Try.prog 44 (.agg #[.string ⟨#[100, 114, 111, 112]⟩, .string s]) = some kl :=
  key_gen (t := 9) Try.underlying44 rfl rfl rfl rfl (by decide) (by decide) Try.underlying9 cells44 cells9 keyType44 types_pos _ s (by unfold maxLen; decide) hs

/-- 'p, ok := m[k]' at this map, the pointer's shape written out. -/
theorem wpList_look {P : Program} (w : World) {ops : Array Oper} {rest : List Oper} {o : Oper} {a : Act} {Q : Exit → Act → World → Prop} (hg : o.guard = none) (m x : Operand) (t : TypeId) (hop : o.op = Op.lookup t m x true)
    (k e : TypeId) (K : Maps.Keyed P k) (ht : P.underlying t = some (.map k e)) (hz : (zeroValue e).run P w = .ok (.pointer none) w) (b n : Nat) (D : DataW Unit)
    (hm : a.eval m = .map (some b)) (hown : w.ownsMap P k ptrElem b n D) (key : Value) (kl : Lit) (hx : a.eval x = key) (hkey : keyOf P k key = some kl)
    (hK : ∀ p, ptrElem (.pointer p) = some (D.atKey kl .nil, []) → wpList P ops Q rest (a.put o.dst (.tuple #[.pointer p, .bool (Maps.has D kl)])) w) :
    wpList P ops Q (o :: rest) a w :=
  wpList_lookup_own_ok w hg m x t hop k e K ht ptrElem hz .nil [] ptrElem_nil b n D hm hown key kl hx hkey (fun v ps hv => by
    obtain ⟨p, rfl, hp⟩ := ptrElem_inv hv
    cases hp
    exact hK p hv)

end Go.Proofs.Qxb6609569a
