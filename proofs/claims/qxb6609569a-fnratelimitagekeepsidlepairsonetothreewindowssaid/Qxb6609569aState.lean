/-
  The state of the law's main loop, and its plain laws: no walk here.
-/
import Derived.Test.Qxb6609569aClaims
namespace Go.Proofs.Qxb6609569a
open Go.RowKit
set_option linter.unusedVariables false

/-- Block tb holds the instant T. -/
def Inst (w : World) (tb : Nat) (T : Int) : Prop := w.heap[tb]? = some (.cells #[.int .u64 (T % 1000000000), .int .i64 (T / 1000000000), .pointer none] 32 (0, 0))

/-- What lies in memory at a round's head: the map in M, the row in M + 1, the clock's hand in tb, the limiter (begun at B) in L. -/
structure St (w wr : World) (M tb L : Nat) (es : Array MapEntry) (clock : Nat) (arr : Array Value) (T B : Int) (c p : Nat) : Prop where
  bel : Below w.heap.size w wr
  hm : wr.heap[M]? = some (.map es clock)
  ha : wr.heap[M + 1]? = some (.cells arr 46 (0, 0))
  ht : Inst wr tb T
  hl : Lim wr L (B % 1000000000) (B / 1000000000) c p
  lM : w.heap.size ≤ M
  lt : w.heap.size ≤ tb
  lL : w.heap.size ≤ L

/-- An empty map. -/
def Empty (w : World) (c : Nat) : Prop := w.heap[c]? = some (.map #[] 0)

/-- Which of the two generations is the map M. T0: the start; T: now; B: the limiter's beginning. -/
def Ph (wr : World) (M c p : Nat) (T0 T B : Int) : Prop :=
  (c = M ∧ Empty wr p ∧ B = T0 ∧ T0 ≤ T ∧ T < T0 + 1000000000) ∨
  (p = M ∧ Empty wr c ∧ T0 + 1000000000 ≤ B ∧ B < T0 + 2000000000 ∧ B ≤ T ∧ T < B + 1000000000) ∨
  (Empty wr c ∧ Empty wr p ∧ T0 + 1000000000 ≤ B ∧ B ≤ T ∧ T < B + 1000000000)

section
variable {w wr w' : World} {M tb L c p : Nat} {es : Array MapEntry} {clock : Nat} {arr : Array Value} {T B T0 T1 : Int}

theorem keep {b : Nat} {o : Obj} (hb : Below wr.heap.size wr w') (h : wr.heap[b]? = some o) : w'.heap[b]? = some o := (hb.block b (lt_of_block h)).trans h
theorem keepBut {b r : Nat} {o : Obj} (hg : wr.grownBy w' (some r)) (hne : b ≠ r) (h : wr.heap[b]? = some o) : w'.heap[b]? = some o := (hg.block b (lt_of_block h) (fun e => hne (by cases e; rfl))).trans h

theorem St.below (h : St w wr M tb L es clock arr T B c p) (hb : Below wr.heap.size wr w') : St w w' M tb L es clock arr T B c p :=
  ⟨h.bel.trans (hb.mono h.bel.size), keep hb h.hm, keep hb h.ha, keep hb h.ht, keep hb h.hl, h.lM, h.lt, h.lL⟩

theorem Ph.below (h : Ph wr M c p T0 T B) (hb : Below wr.heap.size wr w') : Ph w' M c p T0 T B := by
  rcases h with ⟨a, b, r⟩ | ⟨a, b, r⟩ | ⟨a, b, r⟩
  · exact .inl ⟨a, keep hb b, r⟩
  · exact .inr (.inl ⟨a, keep hb b, r⟩)
  · exact .inr (.inr ⟨keep hb a, keep hb b, r⟩)

/-- The three cells of an instant, written. -/
def putInst (w : World) (tb : Nat) (T : Int) : World := ((w.setCell ⟨tb, 0, none⟩ (.int .u64 (T % 1000000000))).setCell ⟨tb, 1, none⟩ (.int .i64 (T / 1000000000))).setCell ⟨tb, 2, none⟩ (.pointer none)

theorem putInst_grown (w : World) (tb : Nat) (T : Int) : w.grownBy (putInst w tb T) (some tb) := grown_set (grown_set (grown_set (World.grownBy.refl _ _) _) _) _
theorem putInst_inst (h : Inst wr tb T) (T' : Int) : Inst (putInst wr tb T') tb T' := set_block (set_block (set_block h))

theorem Lim.ne_inst {n s : Int} (h : Lim wr L n s c p) (ht : Inst wr tb T) : L ≠ tb := by
  rintro rfl
  unfold Lim at h
  unfold Inst at ht
  rw [h] at ht
  simp at ht
theorem Lim.ne_map {n s : Int} {b : Nat} {e : Array MapEntry} {k : Nat} (h : Lim wr L n s c p) (ht : wr.heap[b]? = some (.map e k)) : b ≠ L := by
  rintro rfl
  unfold Lim at h
  rw [h] at ht
  simp at ht
theorem Lim.ne_row {n s : Int} {b : Nat} (h : Lim wr L n s c p) (ht : wr.heap[b]? = some (.cells arr 46 (0, 0))) : b ≠ L := by
  rintro rfl
  unfold Lim at h
  rw [h] at ht
  simp at ht
theorem Inst.ne_map {b : Nat} {e : Array MapEntry} {k : Nat} (h : Inst wr tb T) (ht : wr.heap[b]? = some (.map e k)) : b ≠ tb := by
  rintro rfl
  unfold Inst at h
  rw [h] at ht
  simp at ht
theorem Inst.ne_row {b : Nat} (h : Inst wr tb T) (ht : wr.heap[b]? = some (.cells arr 46 (0, 0))) : b ≠ tb := by
  rintro rfl
  unfold Inst at h
  rw [h] at ht
  simp at ht

theorem St.put (h : St w wr M tb L es clock arr T B c p) (T' : Int) : St w (putInst wr tb T') M tb L es clock arr T' B c p :=
  ⟨h.bel.grown (putInst_grown _ _ _) h.bel.size (fun k hk => by cases hk; exact h.lt), keepBut (putInst_grown _ _ _) (h.ht.ne_map h.hm) h.hm, keepBut (putInst_grown _ _ _) (h.ht.ne_row h.ha) h.ha, putInst_inst h.ht T',
    keepBut (putInst_grown _ _ _) (h.hl.ne_inst h.ht) h.hl, h.lM, h.lt, h.lL⟩

theorem Ph.put (h : Ph wr M c p T0 T B) (ht : Inst wr tb T) (X : Int) : Ph (putInst wr tb X) M c p T0 T B := by
  rcases h with ⟨a, b, r⟩ | ⟨a, b, r⟩ | ⟨a, b, r⟩
  · exact .inl ⟨a, keepBut (putInst_grown _ _ _) (ht.ne_map b) b, r⟩
  · exact .inr (.inl ⟨a, keepBut (putInst_grown _ _ _) (ht.ne_map b) b, r⟩)
  · exact .inr (.inr ⟨keepBut (putInst_grown _ _ _) (ht.ne_map a) a, keepBut (putInst_grown _ _ _) (ht.ne_map b) b, r⟩)

/-- One call of age at the instant T1: the phase goes on; what was dropped stays dropped. -/
theorem aged_step (h : St w wr M tb L es clock arr T1 B c p) (hp : Ph wr M c p T0 T B) (hT : T ≤ T1) (ha : Aged wr w' L c p (T1 % 1000000000) (T1 / 1000000000) (B % 1000000000) (B / 1000000000) (T1 - B)) :
    ∃ B' c' p', St w w' M tb L es clock arr T1 B' c' p' ∧ Ph w' M c' p' T0 T1 B' ∧ (Empty wr c ∧ Empty wr p → Empty w' c' ∧ Empty w' p') := by
  obtain ⟨hg, ha⟩ := ha
  have km := keepBut hg (h.hl.ne_map h.hm) h.hm
  have kr := keepBut hg (h.hl.ne_row h.ha) h.ha
  have kt := keepBut hg (h.hl.ne_inst h.ht).symm h.ht
  have kb := h.bel.grown hg h.bel.size (fun k hk => by cases hk; exact h.lL)
  rcases ha with ⟨hD, hl⟩ | ⟨hD, hD2, c', hc, hec, hl⟩ | ⟨hD, c', p', hc, hcp, hec, hep, hl⟩
  · refine ⟨B, c, p, ⟨kb, km, kr, kt, hl, h.lM, h.lt, h.lL⟩, ?_, fun ⟨x, y⟩ => ⟨keepBut hg (h.hl.ne_map x) x, keepBut hg (h.hl.ne_map y) y⟩⟩
    rcases hp with ⟨a, b, r⟩ | ⟨a, b, r⟩ | ⟨a, b, r⟩
    · exact .inl ⟨a, keepBut hg (h.hl.ne_map b) b, by omega⟩
    · exact .inr (.inl ⟨a, keepBut hg (h.hl.ne_map b) b, by omega⟩)
    · exact .inr (.inr ⟨keepBut hg (h.hl.ne_map a) a, keepBut hg (h.hl.ne_map b) b, by omega⟩)
  · refine ⟨T1, c', c, ⟨kb, km, kr, kt, hl, h.lM, h.lt, h.lL⟩, ?_, fun ⟨x, y⟩ => ⟨hec, keepBut hg (h.hl.ne_map x) x⟩⟩
    rcases hp with ⟨a, b, r⟩ | ⟨a, b, r⟩ | ⟨a, b, r⟩
    · exact .inr (.inl ⟨a, hec, by omega⟩)
    · exact .inr (.inr ⟨hec, keepBut hg (h.hl.ne_map b) b, by omega⟩)
    · exact .inr (.inr ⟨hec, keepBut hg (h.hl.ne_map a) a, by omega⟩)
  · refine ⟨T1, c', p', ⟨kb, km, kr, kt, hl, h.lM, h.lt, h.lL⟩, ?_, fun _ => ⟨hec, hep⟩⟩
    refine .inr (.inr ⟨hec, hep, ?_⟩)
    rcases hp with ⟨a, b, r⟩ | ⟨a, b, r⟩ | ⟨a, b, r⟩ <;> omega

end

/-- 'len' of a map whose entries are known. -/
theorem len_map {w : World} {b : Nat} {es : Array MapEntry} {clock : Nat} (h : w.heap[b]? = some (.map es clock)) (ty : TypeId) : (Builtin.len_ #[25] ty #[.map (some b)]).run Try.prog w = .ok (.int .i64 es.size) w := by
  simp [Builtin.len_, run_underlying Try.underlying25, MapKept.run_getObj_map h, goInt, Result.andThen]

end Go.Proofs.Qxb6609569a
