/-
  The law's own walk (function 3), at most 4096 steps and 4096 names.
-/
import Derived.Test.Qxb6609569aState
import Derived.Deep.CutRange
import Derived.WalkSpells
import Derived.LaidEql
namespace Go.Proofs.Qxb6609569a
open Go.RowKit
set_option linter.unusedVariables false

theorem Inst.cells {w : World} {tb : Nat} {T : Int} (h : Inst w tb T) : w.cell? ⟨tb, 0, none⟩ = some (.int .u64 (T % 1000000000)) ∧ w.cell? ⟨tb, 1, none⟩ = some (.int .i64 (T / 1000000000)) ∧ w.cell? ⟨tb, 2, none⟩ = some (.pointer none) ∧ ∀ o, w.frozen? ⟨tb, o, none⟩ = false := by
  unfold Inst at h
  refine ⟨by simp [World.cell?, h], by simp [World.cell?, h], by simp [World.cell?, h], fun o => by simp [World.frozen?, h]⟩

theorem add_inst (T d : Int) (hT0 : -20000000000000000000 ≤ T) (hT1 : T ≤ 20000000000000000000) (hd0 : 0 ≤ d) (hd1 : d ≤ 4294967295) (w : World) :
    Calls Try.prog 8 #[.agg #[.int .u64 (T % 1000000000), .int .i64 (T / 1000000000), .pointer none], .int .i64 d] w fun e w' =>
      e = .returned (.agg #[.int .u64 ((T + d) % 1000000000), .int .i64 ((T + d) / 1000000000), .pointer none]) ∧ Below w.heap.size w w' :=
  add_to _ _ _ _ _ (by omega) (by omega) (by omega) (by omega) (by omega) (by omega) (by omega) (by omega) (by omega) _

theorem sub_inst (T U : Int) (hT0 : -20000000000000000000 ≤ U) (hT1 : T ≤ 20000000000000000000) (hd0 : U ≤ T) (hd1 : T - U ≤ 10000000000) (w : World) :
    Calls Try.prog 11 #[.agg #[.int .u64 (T % 1000000000), .int .i64 (T / 1000000000), .pointer none], .agg #[.int .u64 (U % 1000000000), .int .i64 (U / 1000000000), .pointer none]] w fun e w' =>
      e = .returned (.int .i64 (T - U)) ∧ Below w.heap.size w w' :=
  sub_any _ _ _ _ _ (by omega) (by omega) (by omega) (by omega) (by omega) (by omega) (by omega) (by omega) (by omega) (by omega) (by omega) _

theorem zzage_inst (L c p : Nat) (T B : Int) (hT0 : -20000000000000000000 ≤ B) (hT1 : T ≤ 20000000000000000000) (hd0 : B ≤ T) (hd1 : T - B ≤ 10000000000) (w : World) (hL : Lim w L (B % 1000000000) (B / 1000000000) c p) :
    Calls Try.prog 9 #[.pointer (some ⟨L, 0, none⟩), .agg #[.int .u64 (T % 1000000000), .int .i64 (T / 1000000000), .pointer none]] w fun e w' =>
      e = .returned (.tuple #[]) ∧ Aged w w' L c p (T % 1000000000) (T / 1000000000) (B % 1000000000) (B / 1000000000) (T - B) :=
  zzage_any L c p _ _ _ _ (T - B) (by omega) (by omega) (by omega) (by omega) (by omega) (by omega) (by omega) (by omega) (by omega) (by omega) (by omega) _ hL

/-- The loop's invariant: E nanoseconds have gone by since T0. -/
def Inv (w wr : World) (M tb L : Nat) (es : Array MapEntry) (clock : Nat) (arr : Array Value) (T0 : Int) (k : Nat) (E : Int) (g : Bool) : Prop :=
  ∃ B c p, 0 ≤ E ∧ E ≤ (k : Int) * 4294967295 ∧ St w wr M tb L es clock arr (T0 + E) B c p ∧ Ph wr M c p T0 (T0 + E) B ∧ (g = true → 0 < es.size ∧ Empty wr c ∧ Empty wr p) ∧ (g = false → es.size = 0 ∨ c = M ∨ p = M)

theorem undrew {w w1 : World} (h : Below w.drew.heap.size w.drew w1) : Below w.heap.size w w1 := ⟨h.os, h.tape, h.output, h.size, h.block⟩

theorem len_empty {w : World} {b : Nat} (h : Empty w b) (ty : TypeId) : (Builtin.len_ #[25] ty #[.map (some b)]).run Try.prog w = .ok (.int .i64 0) w := len_map h ty
theorem full_not_empty {w : World} {b : Nat} {es : Array MapEntry} {clock : Nat} (h : w.heap[b]? = some (.map es clock)) (hn : 0 < es.size) (he : Empty w b) : False := by
  unfold Empty at he
  rw [h] at he
  simp at he
  obtain ⟨rfl, _⟩ := he
  simp at hn

theorem look_full {w : World} {b n : Nat} {D : DataW Unit} {key : Value} {kl : Lit} {q : Option Addr} (h : w.ownsMap Try.prog 44 ptrElem b n D) (hk : keyOf Try.prog 44 key = some kl) (hh : Maps.has D kl = true) (hq : ptrElem (.pointer q) = some (D.atKey kl .nil, [])) :
    (Instr.lookup 25 (.map (some b)) key true).run Try.prog w = .ok (.tuple #[.pointer q, .bool true]) w := by
  obtain ⟨v, ps, hrun, hv⟩ := h.look_ok law Try.underlying25 (zero46 _) ptrElem_nil hk
  obtain ⟨p, rfl, hp⟩ := ptrElem_inv hv
  cases hp
  rw [hh] at hrun
  rw [hrun, ptrElem_inj hv hq]

theorem look_empty {w : World} {b : Nat} {key : Value} {kl : Lit} (h : Empty w b) (hk : keyOf Try.prog 44 key = some kl) :
    (Instr.lookup 25 (.map (some b)) key true).run Try.prog w = .ok (.tuple #[.pointer none, .bool false]) w := by
  have ho : w.ownsMap (H := Unit) Try.prog 44 ptrElem b 0 (.map []) := ⟨#[], 0, h, ⟨by simp, MapKept.stamped_empty 0, by simp⟩, Nat.le_refl _, rfl⟩
  obtain ⟨v, ps, hrun, hv⟩ := ho.look_ok law Try.underlying25 (zero46 _) ptrElem_nil hk
  obtain ⟨p, rfl, hp⟩ := ptrElem_inv hv
  cases hp
  rw [hrun, ptrElem_inj (c := none) hv rfl]
  rfl

theorem neq_gen {P : Program} {t e : TypeId} (w : World) (h : P.underlying t = some (.pointer e)) (hc : P.cellsOf e = 31) (q : Option Addr) : (binOp .neq t (.pointer q) (.pointer q)).run P w = .ok (.bool false) w := by
  have he : P.pointee t = e := by simp [Program.pointee, h]
  cases q with
  | none => rw [run_neq_pointer_nil w t none (by rw [he]; exact h)]; rfl
  | some a =>
    obtain ⟨i, hi⟩ : ∃ i, P.info? e = some i := by
      cases hh : P.info? e with
      | none => simp [Program.cellsOf, hh] at hc
      | some i => exact ⟨i, rfl⟩
    simp only [Program.cellsOf, hi, Option.map_some, Option.getD_some] at hc
    have hs : (sizeOf e).run P w = .ok 31 w := by simp [sizeOf, typeInfo, hi, hc]
    have heq : ∀ d, (Op.equalIn (d + 1) t (.pointer (some a)) (.pointer (some a))).run P w = .ok true w := by
      intro d
      simp [Op.equalIn, run_underlying h, hs, run_sameAddr_same, Result.andThen]
    have heq' : (Op.equal t (.pointer (some a)) (.pointer (some a))).run P w = .ok true w := heq 9999
    simp only [binOp]
    simp [heq']

theorem cells50 : Try.prog.cellsOf 50 = 31 := by kernel_rfl
theorem neq_same (q : Option Addr) (w : World) : (binOp .neq 46 (.pointer q) (.pointer q)).run Try.prog w = .ok (.bool false) w := neq_gen w Try.underlying46 cells50 q

theorem has_pos {D : DataW Unit} {kl : Lit} (h : Maps.has D kl = true) : 0 < Maps.size D := by
  cases D <;> simp [Maps.has] at h
  rename_i es
  cases es with
  | nil => simp at h
  | cons x r => simp [Maps.size]

theorem grown_from2 {w w' : World} {A B : Obj} {r : Option Nat} (h : ((w.alloc A).alloc B).grownBy w' r) : w.grownBy w' r := ((World.grownBy_alloc _ _ _).trans (World.grownBy_alloc _ _ _)).trans h

set_option maxRecDepth 1000000 in
set_option maxHeartbeats 2000000 in
theorem law_main (T0 : Int) (ht0 : -9223372036854775808 ≤ T0) (ht1 : T0 ≤ 9223372036854775807) (a1 : Option Addr) (len1 cap1 b1 off1 : Nat) (zs : List Int) (a2 : Option Addr) (len2 cap2 b2 off2 : Nat) (ss : List ByteArray) (w : World)
    (hl1 : len1 ≤ 4096) (hl2 : len2 ≤ 4096) (hb1 : 0 < len1 → b1 < w.heap.size) (hb2 : 0 < len2 → b2 < w.heap.size)
    (hi1 : Idx 22 a1 len1 cap1 b1 off1) (hc1 : ∀ k, k < len1 → w.cell? ⟨b1, off1 + k, none⟩ = some (.int .u32 (zs.getD k 0))) (hz1 : ∀ k, 0 ≤ zs.getD k 0 ∧ zs.getD k 0 ≤ 4294967295)
    (hi2 : Idx 23 a2 len2 cap2 b2 off2) (hc2 : ∀ k, k < len2 → w.cell? ⟨b2, off2 + k, none⟩ = some (.string (ss.getD k ByteArray.empty))) (hz2 : ∀ k, k < len2 → (ss.getD k ByteArray.empty).size ≤ maxLen) :
    Calls Try.prog 3 #[.int .i64 T0, .slice a1 len1 cap1, .slice a2 len2 cap2] w fun e w' => e = .returned (.bool true) ∧ Below w.heap.size w w' := by
  have HI1 : Hid (Idx 22 a1 len1 cap1 b1 off1) := hi1
  have HC1 : Hid (∀ k, k < len1 → w.cell? ⟨b1, off1 + k, none⟩ = some (.int .u32 (zs.getD k 0))) := hc1
  have HZ1 : Hid (∀ k, 0 ≤ zs.getD k 0 ∧ zs.getD k 0 ≤ 4294967295) := hz1
  have HI2 : Hid (Idx 23 a2 len2 cap2 b2 off2) := hi2
  have HC2 : Hid (∀ k, k < len2 → w.cell? ⟨b2, off2 + k, none⟩ = some (.string (ss.getD k ByteArray.empty))) := hc2
  have HZ2 : Hid (∀ k, k < len2 → (ss.getD k ByteArray.empty).size ≤ maxLen) := hz2
  clear hi1 hc1 hz1 hi2 hc2 hz2
  have hmm := @run_makeMap Try.prog
  go_enter Try.func3, Try.ntmps3
  go_wp2_with fail
  refine (bytes_any T0 a1 len1 cap1 a2 len2 cap2 b2 off2 ss w (by omega) (by omega) HI2.out HC2.out).mono ?_
  rintro e w' ⟨⟨x, rfl⟩, rfl⟩
  cases x
  · go_wp2
    go_ret
    exact ⟨rfl, Below.refl _ _⟩
  go_wp2_with fail
  go_loop [7, 8] (fun z i => ∃ (k : Nat) (x : Int), k ≤ len2 ∧ i = .int .i64 k ∧ z = .int .i64 x) (fun _ i => len2 - (intOf i).toNat)
  case atStart => exact ⟨0, _, Nat.zero_le _, rfl, rfl⟩
  case round =>
    obtain ⟨k, x, hk, rfl, rfl⟩ := hrel
    by_cases hlt : k < len2
    · have h1 := HI2.out k hlt
      have h2 := HC2.out k hlt
      go_wp2
      · go_ret
        exact ⟨rfl, Below.refl _ _⟩
      · go_round
        case rel => exact ⟨k + 1, _, by omega, by go_num, rfl⟩
        case measure => simp [intOf]; omega
    · go_wp2_with fail
      · go_ret
        exact ⟨rfl, Below.refl _ _⟩
      refine (claims_any a2 len2 cap2 b2 off2 ss _ (by omega) hb2 HI2.out HC2.out HZ2.out).mono ?_
      rintro e w1 ⟨rfl, hM⟩
      obtain ⟨hbel, D, arr, hown, harr, hsz, hgood⟩ := hM
      obtain ⟨es, clock, hm, hF, hes, hDe⟩ := hown
      have hn := len_map hm
      have HM : Hid (w1.heap[w'.heap.size]? = some (.map es clock)) := hm
      have HD : Hid (∀ v : World, v.heap[w'.heap.size]? = some (.map es clock) → v.ownsMap Try.prog 44 ptrElem w'.heap.size len2 D) := fun v hv => ⟨es, clock, hv, hF, hes, hDe⟩
      have HA : Hid (w1.heap[w'.heap.size + 1]? = some (.cells arr 46 (0, 0))) := harr
      have HS : Hid (arr.size = len2) := hsz
      have HG : Hid (∀ j, j < len2 → ∃ p, arr[j]? = some (.pointer p) ∧ Good D (ss.getD j ByteArray.empty) p) := hgood
      have HB : Hid (Below w'.heap.size w' w1) := hbel
      have HE : Hid (Maps.size D = es.size) := by rw [hDe]; simp [Hid, Maps.size, length_sorted]
      have hz1 := hbel.size
      clear hbel hm hF hDe harr hsz hgood
      go_wp2_with fail
      refine (at_any T0 ht0 ht1 _).mono ?_
      rintro e w2 ⟨rfl, hb2⟩
      have hz2 := hb2.size
      have HB2 : Hid (Below w1.heap.size w1 w2) := hb2
      clear hb2 hn
      go_wp2_with fail
      refine (new_any _ _ _ _ _).mono ?_
      rintro e w3 ⟨rfl, hg3, hs3, hL3⟩
      simp at hs3
      have HL3 : Hid (Lim w3 (w2.heap.size + 1 + 1 + 1) (T0 % 1000000000) (T0 / 1000000000) w'.heap.size (w2.heap.size + 1)) := by simpa [Hid] using hL3
      have hi3 : Inst w3 w2.heap.size T0 := (hg3.block _ (by simp; omega) (by simp)).trans (heap_alloc2_old _ _ _)
      have he3 : Empty w3 (w2.heap.size + 1) := (hg3.block _ (by simp) (by simp)).trans (heap_alloc2_new _ _ _)
      have HE3 : Hid (Empty w3 (w2.heap.size + 1)) := he3
      have HG3 : Hid (w2.grownBy w3 none) := grown_from2 hg3
      obtain ⟨d0, d1, d2, d3⟩ := hi3.cells
      have hz3 : w3.heap.size = w2.heap.size + 4 := hs3
      clear hg3 hs3 hL3 he3 hi3
      go_wp2_with fail
      have hs4 : w'.heap.size ≤ w2.heap.size := by omega
      have hInv : Inv w' (w3.alloc (.cells #[.int .u64 (T0 % 1000000000), .int .i64 (T0 / 1000000000), .pointer none] 32)) w'.heap.size (w2.heap.size + 4) (w2.heap.size + 1 + 1 + 1) es clock arr T0 0 0 false := by
        have k2 : ∀ {b : Nat} {o : Obj}, w1.heap[b]? = some o → w3.heap[b]? = some o := fun h => (HG3.out.block _ (lt_of_block (keep HB2.out h)) (by simp)).trans (keep HB2.out h)
        refine ⟨T0, w'.heap.size, w2.heap.size + 1, by omega, by omega, ?_, ?_, fun h => (by cases h), fun _ => .inr (.inl rfl)⟩
        · refine ⟨?_, alloc_block (k2 HM.out), alloc_block (k2 HA.out), ?_, alloc_block HL3.out, Nat.le_refl _, by omega, by omega⟩
          · exact ((HB.out.trans (HB2.out.mono HB.out.size)).grown HG3.out hs4 (by simp)).alloc (by omega) _
          · rw [Int.add_zero, ← hz3]
            exact new_block _ _
        · exact .inl ⟨rfl, alloc_block HE3.out, rfl, by omega, by omega⟩
      clear hmm d0 d1 d2 d3 HL3 HE3 HG3 HB2 HB HM HA hz3
      go_loopw [15, 16, 17] (fun el g i wr => ∃ (k : Nat) (E : Int) (gb : Bool), k ≤ len1 ∧ i = .int .i64 k ∧ el = .int .i64 E ∧ g = .bool gb ∧ Inv w' wr w'.heap.size (w2.heap.size + 4) (w2.heap.size + 1 + 1 + 1) es clock arr T0 k E gb) (fun _ _ i _ => len1 - (intOf i).toNat)
      case atStart => exact ⟨0, 0, false, Nat.zero_le _, rfl, rfl, rfl, hInv⟩
      case round =>
        clear hInv
        obtain ⟨k, E, gb, hk1, rfl, rfl, rfl, B, c, p, hE0, hE1, hSt, hPh, hgt, hgf⟩ := hrel
        by_cases hlt1 : k < len1
        · have h1 := HI1.out k hlt1
          have h2 : wr.cell? ⟨b1, off1 + k, none⟩ = some (.int .u32 (zs.getD k 0)) := (hSt.bel.cell (p := ⟨b1, off1 + k, none⟩) (hb1 (by omega))).trans (HC1.out k hlt1)
          have hzk := HZ1.out k
          obtain ⟨z, hz⟩ : ∃ z, z = zs.getD k 0 := ⟨_, rfl⟩
          rw [← hz] at h2 hzk
          have HZ : Hid (z = zs.getD k 0) := hz
          obtain ⟨hzk0, hzk1⟩ := hzk
          obtain ⟨t0, t1, t2, tf⟩ := hSt.ht.cells
          have HS0 : Hid (St w' wr w'.heap.size (w2.heap.size + 4) (w2.heap.size + 1 + 1 + 1) es clock arr (T0 + E) B c p) := hSt
          have HP0 : Hid (Ph wr w'.heap.size c p T0 (T0 + E) B) := hPh
          have HT : Hid (gb = true → 0 < es.size ∧ Empty wr c ∧ Empty wr p) := hgt
          have HF : Hid (gb = false → es.size = 0 ∨ c = w'.heap.size ∨ p = w'.heap.size) := hgf
          have hbd : E ≤ 17592186040320 := by omega
          have htb : w2.heap.size + 4 < wr.heap.size := lt_of_block hSt.ht
          have hwz : IntKind.i64.wrap z = z := by rw [IntKind.wrap_i64]; omega
          clear hz hSt hPh hgt hgf
          go_wp2_with fail
          go_cut [] from 81 to 166 (fun wx => St w' wx w'.heap.size (w2.heap.size + 4) (w2.heap.size + 1 + 1 + 1) es clock arr (T0 + E + z) B c p ∧ Ph wx w'.heap.size c p T0 (T0 + E) B ∧ (gb = true → 0 < es.size ∧ Empty wx c ∧ Empty wx p))
          case first =>
            go_region_with (go_at_call 8; refine (add_inst (T0 + E) z (by omega) (by omega) (by omega) (by omega) _).mono ?_; rintro e w5 ⟨rfl, hb5⟩; obtain ⟨e0, e1, e2, ef⟩ := (show Inst w5 (w2.heap.size + 4) (T0 + E) from keep hb5 HS0.out.ht).cells)
            all_goals (go_wp2_with fail; go_meet)
            all_goals
              have S5 := HS0.out.below (undrew hb5)
              have P5 := HP0.out.below (undrew hb5)
              exact ⟨S5.put _, P5.put S5.ht _, fun h => ⟨(HT.out h).1, keepBut (putInst_grown _ _ _) (S5.ht.ne_map (keep (undrew hb5) (HT.out h).2.1)) (keep (undrew hb5) (HT.out h).2.1), keepBut (putInst_grown _ _ _) (S5.ht.ne_map (keep (undrew hb5) (HT.out h).2.2)) (keep (undrew hb5) (HT.out h).2.2)⟩⟩
          case rest =>
            obtain ⟨hS, hP, hT⟩ := hcut
            obtain ⟨t0, t1, t2, tf⟩ := hS.ht.cells
            have h2 : wc.cell? ⟨b1, off1 + k, none⟩ = some (.int .u32 z) := by rw [HZ.out]; exact (hS.bel.cell (p := ⟨b1, off1 + k, none⟩) (hb1 (by omega))).trans (HC1.out k hlt1)
            have hB0 : T0 ≤ B ∧ B ≤ T0 + E ∧ T0 + E - B < 1000000000 := by rcases hP with h | h | h <;> omega
            obtain ⟨hB0, hB1, hB2⟩ := hB0
            have HS1 : Hid (St w' wc w'.heap.size (w2.heap.size + 4) (w2.heap.size + 1 + 1 + 1) es clock arr (T0 + E + z) B c p) := hS
            have HP1 : Hid (Ph wc w'.heap.size c p T0 (T0 + E) B) := hP
            have HT1 : Hid (gb = true → 0 < es.size ∧ Empty wc c ∧ Empty wc p) := hT
            clear hS hP hT
            go_wp2_with fail
            refine (zzage_inst (w2.heap.size + 1 + 1 + 1) c p (T0 + E + z) B (by omega) (by omega) (by omega) (by omega) _ HS1.out.hl).mono ?_
            rintro e w6 ⟨rfl, hA6⟩
            obtain ⟨B', c', p', S6, P6, E6⟩ := aged_step HS1.out HP1.out (by omega) hA6
            have HS6 : Hid (St w' w6 w'.heap.size (w2.heap.size + 4) (w2.heap.size + 1 + 1 + 1) es clock arr (T0 + E + z) B' c' p') := S6
            have HP6 : Hid (Ph w6 w'.heap.size c' p' T0 (T0 + E + z) B') := P6
            have HT6 : Hid (gb = true → 0 < es.size ∧ Empty w6 c' ∧ Empty w6 p') := fun h => ⟨(HT1.out h).1, E6 (HT1.out h).2⟩
            clear hA6 S6 P6 E6 t0 t1 t2 tf h2 HS1 HP1 HT1
            go_wp2_with fail
            refine (fields_any (w2.heap.size + 1 + 1 + 1) c' p' _ _ _ HS6.out.hl).mono ?_
            rintro e w7 ⟨rfl, hb7⟩
            have S7 := HS6.out.below hb7
            have P7 := HP6.out.below hb7
            have T7 : gb = true → 0 < es.size ∧ Empty w7 c' ∧ Empty w7 p' := fun h => ⟨(HT6.out h).1, keep hb7 (HT6.out h).2.1, keep hb7 (HT6.out h).2.2⟩
            obtain ⟨t0, t1, t2, tf⟩ := S7.ht.cells
            have l7 : w2.heap.size + 4 < w7.heap.size := lt_of_block S7.ht
            have hB' : T0 ≤ B' ∧ B' ≤ T0 + E + z ∧ T0 + E + z - B' < 1000000000 := by rcases P7 with h | h | h <;> omega
            obtain ⟨hB0', hB1', hB2'⟩ := hB'
            have HS7 : Hid (St w' w7 w'.heap.size (w2.heap.size + 4) (w2.heap.size + 1 + 1 + 1) es clock arr (T0 + E + z) B' c' p') := S7
            have HP7 : Hid (Ph w7 w'.heap.size c' p' T0 (T0 + E + z) B') := P7
            have HT7 : Hid (gb = true → 0 < es.size ∧ Empty w7 c' ∧ Empty w7 p') := T7
            clear S7 P7 T7 hb7 HS6 HP6 HT6
            go_wp2_with fail
            refine (sub_inst (T0 + E + z) B' (by omega) (by omega) (by omega) (by omega) _).mono ?_
            rintro e w9 ⟨rfl, hb9⟩
            have hb79 : Below w7.heap.size w7 w9 := ((Below.refl _ _).alloc (Nat.le_refl _) _).trans (hb9.mono (by simp))
            have S9 := HS7.out.below hb79
            have P9 := HP7.out.below hb79
            have T9 : gb = true → 0 < es.size ∧ Empty w9 c' ∧ Empty w9 p' := fun h => ⟨(HT7.out h).1, keep hb79 (HT7.out h).2.1, keep hb79 (HT7.out h).2.2⟩
            have hq : ∀ (w : World) (r : Option Nat), (binOp .eql 25 (.map r) (.map none)).run Try.prog w = .ok (.bool r.isNone) w := fun w r => run_eql_map_nil w _ _ _ r Try.underlying25
            clear hb9 hb79 HS7 HP7 HT7 t0 t1 t2 tf l7
            have HS9 : Hid (St w' w9 w'.heap.size (w2.heap.size + 4) (w2.heap.size + 1 + 1 + 1) es clock arr (T0 + E + z) B' c' p') := S9
            have HP9 : Hid (Ph w9 w'.heap.size c' p' T0 (T0 + E + z) B') := P9
            have hNz : es.size < 1 ∨ 0 < es.size := by omega
            rcases P9 with ⟨hcM, hep, hBT, hT1, hT2⟩ | ⟨hpM, hec, hB3, hB4, hT1, hT2⟩ | ⟨hec, hep, hB3, hT1, hT2⟩
            · have hlc := len_map (show w9.heap[c']? = some (.map es clock) by rw [hcM]; exact S9.hm)
              have hlp := len_empty hep
              have hg0 : gb = false := by
                cases hgb : gb
                · rfl
                · have := T9 hgb
                  exact absurd (full_not_empty S9.hm this.1 (hcM ▸ this.2.1)) id
              have HH : Hid (c' = w'.heap.size) := hcM
              have hE9 : E + z < 1000000000 := by omega
              clear S9 T9 hcM hep hBT hT1 hT2
              subst hg0
              rcases hNz with hN | hN
              · go_wp2
                go_roundw
                case rel => exact ⟨k + 1, E + z, false, by omega, by go_num, rfl, rfl, B', c', p', by omega, by omega, by rw [← Int.add_assoc]; exact HS9.out, by rw [← Int.add_assoc]; exact HP9.out, fun h => absurd h (by simp), fun _ => .inr (.inl HH.out)⟩
                case measure => simp [intOf]; omega
              · go_wp2
                go_roundw
                case rel => exact ⟨k + 1, E + z, false, by omega, by go_num, rfl, rfl, B', c', p', by omega, by omega, by rw [← Int.add_assoc]; exact HS9.out, by rw [← Int.add_assoc]; exact HP9.out, fun h => absurd h (by simp), fun _ => .inr (.inl HH.out)⟩
                case measure => simp [intOf]; omega
            · have hlp := len_map (show w9.heap[p']? = some (.map es clock) by rw [hpM]; exact S9.hm)
              have hlc := len_empty hec
              have hg0 : gb = false := by
                cases hgb : gb
                · rfl
                · have := T9 hgb
                  exact absurd (full_not_empty S9.hm this.1 (hpM ▸ this.2.2)) id
              have HH : Hid (p' = w'.heap.size) := hpM
              have hE9 : 1000000000 ≤ E + z := by omega
              have hE8 : E + z < 3000000000 := by omega
              clear S9 T9 hpM hec hB3 hB4 hT1 hT2
              subst hg0
              rcases hNz with hN | hN
              · go_wp2
                go_roundw
                case rel => exact ⟨k + 1, E + z, false, by omega, by go_num, rfl, rfl, B', c', p', by omega, by omega, by rw [← Int.add_assoc]; exact HS9.out, by rw [← Int.add_assoc]; exact HP9.out, fun h => absurd h (by simp), fun _ => .inr (.inr HH.out)⟩
                case measure => simp [intOf]; omega
              · go_wp2
                go_roundw
                case rel => exact ⟨k + 1, E + z, false, by omega, by go_num, rfl, rfl, B', c', p', by omega, by omega, by rw [← Int.add_assoc]; exact HS9.out, by rw [← Int.add_assoc]; exact HP9.out, fun h => absurd h (by simp), fun _ => .inr (.inr HH.out)⟩
                case measure => simp [intOf]; omega
            · have hlp := len_empty hep
              have hlc := len_empty hec
              have HE1 : Hid (Empty w9 c') := hec
              have HE2 : Hid (Empty w9 p') := hep
              have hE9 : 1000000000 ≤ E + z := by omega
              have hg0 : es.size < 1 → gb = false := by
                intro h
                cases hgb : gb
                · rfl
                · have := T9 hgb
                  omega
              clear S9 T9 hec hep hB3 hT1 hT2
              rcases hNz with hN | hN
              · obtain rfl := hg0 hN
                go_wp2
                all_goals
                  go_roundw
                  case rel => exact ⟨k + 1, E + z, false, by omega, by go_num, rfl, rfl, B', c', p', by omega, by omega, by rw [← Int.add_assoc]; exact HS9.out, by rw [← Int.add_assoc]; exact HP9.out, fun h => absurd h (by simp), fun _ => .inl (by omega)⟩
                  case measure => simp [intOf]; omega
              · clear hg0
                cases gb
                · go_wp2
                  all_goals
                    go_roundw
                    case rel => exact ⟨k + 1, E + z, true, by omega, by go_num, rfl, rfl, B', c', p', by omega, by omega, by rw [← Int.add_assoc]; exact HS9.out, by rw [← Int.add_assoc]; exact HP9.out, fun _ => ⟨hN, HE1.out, HE2.out⟩, fun h => absurd h (by simp)⟩
                    case measure => simp [intOf]; omega
                · go_wp2
                  all_goals
                    go_roundw
                    case rel => exact ⟨k + 1, E + z, true, by omega, by go_num, rfl, rfl, B', c', p', by omega, by omega, by rw [← Int.add_assoc]; exact HS9.out, by rw [← Int.add_assoc]; exact HP9.out, fun _ => ⟨hN, HE1.out, HE2.out⟩, fun h => absurd h (by simp)⟩
                    case measure => simp [intOf]; omega
        · cases gb
          · have hw : c = w'.heap.size ∨ (Empty wr c ∧ p = w'.heap.size) ∨ es.size = 0 := by
              rcases hPh with ⟨h, _⟩ | ⟨h, h', _⟩ | ⟨h, h', _⟩
              · exact .inl h
              · exact .inr (.inl ⟨h', h⟩)
              · rcases hgf rfl with h1 | h1 | h1
                · exact .inr (.inr h1)
                · exact .inl h1
                · exact .inr (.inl ⟨h, h1⟩)
            have HS0 : Hid (St w' wr w'.heap.size (w2.heap.size + 4) (w2.heap.size + 1 + 1 + 1) es clock arr (T0 + E) B c p) := hSt
            have HW : Hid (c = w'.heap.size ∨ (Empty wr c ∧ p = w'.heap.size) ∨ es.size = 0) := hw
            clear hw hSt hPh hgt hgf
            go_wp2_with fail
            refine (fields_any (w2.heap.size + 1 + 1 + 1) c p _ _ _ HS0.out.hl).mono ?_
            rintro e w6 ⟨rfl, hb6⟩
            have HB6 : Hid (Below wr.heap.size wr w6) := hb6
            clear hb6
            go_wp2_with fail
            go_loopw [26] (fun i wx => ∃ j : Nat, j ≤ len2 ∧ i = .int .i64 j ∧ Below wr.heap.size wr wx) (fun i _ => len2 - (intOf i).toNat)
            case atStart => exact ⟨0, Nat.zero_le _, rfl, HB6.out.alloc HB6.out.size _⟩
            case round =>
              obtain ⟨j, hj, rfl, hbx⟩ := hrel
              by_cases hltj : j < len2
              · have h1 := HI2.out j hltj
                have h3 := HZ2.out j hltj
                have S := HS0.out.below hbx
                have h2 : wr.cell? ⟨b2, off2 + j, none⟩ = some (.string (ss.getD j ByteArray.empty)) := (S.bel.cell (p := ⟨b2, off2 + j, none⟩) (hb2 (by omega))).trans (HC2.out j hltj)
                obtain ⟨q, hq, kl, hkl, hhas, hpq⟩ := HG.out j hltj
                obtain ⟨s, hs⟩ : ∃ s, s = ss.getD j ByteArray.empty := ⟨_, rfl⟩
                rw [← hs] at h2 hkl
                have HK : Hid (keyOf Try.prog 44 (.agg #[.string ⟨#[100, 114, 111, 112]⟩, .string s]) = some kl) := hkl
                have HQ : Hid (arr[j]? = some (.pointer q)) := hq
                have HH : Hid (Maps.has D kl = true ∧ ptrElem (.pointer q) = some (D.atKey kl .nil, [])) := ⟨hhas, hpq⟩
                have HX : Hid (St w' wr w'.heap.size (w2.heap.size + 4) (w2.heap.size + 1 + 1 + 1) es clock arr (T0 + E) B c p) := S
                have HWx : Hid (c = w'.heap.size ∨ (Empty wr c ∧ p = w'.heap.size) ∨ es.size = 0) := HW.out.imp id (fun h => h.imp (fun h => ⟨keep hbx h.1, h.2⟩) id)
                have HBx : Hid (Below _ _ wr) := hbx
                clear hs h3 hq hkl hhas hpq S hbx
                go_wp2_with fail
                refine (claimant_any _ _ _).mono ?_
                rintro e wy ⟨rfl, hby⟩
                have Sy := HX.out.below hby
                have HBy : Hid (Below _ _ wy) := HBx.out.trans (hby.mono HBx.out.size)
                have hly : w'.heap.size + 1 < wy.heap.size := lt_of_block Sy.ha
                have cq : wy.cell? ⟨w'.heap.size + 1, j, none⟩ = some (.pointer q) := by simp [World.cell?, Sy.ha, HQ.out]
                have hlook := look_full (HD.out _ (alloc_block (o' := .cells #[.string ⟨#[100, 114, 111, 112]⟩, .string s] 44) Sy.hm)) HK.out HH.out.1 HH.out.2
                rcases HWx.out with hcM | ⟨hec, hpM⟩ | hN
                · rw [← hcM] at hlook
                  clear hby Sy hcM
                  have hnq := neq_same q
                  go_wp2
                  go_roundw
                  case rel => exact ⟨j + 1, by omega, by go_num, HBy.out.alloc HBy.out.size _⟩
                  case measure => simp [intOf]; omega
                · have hlook0 := look_empty (alloc_block (o' := .cells #[.string ⟨#[100, 114, 111, 112]⟩, .string s] 44) (keep hby hec)) HK.out
                  rw [← hpM] at hlook
                  clear hby Sy hpM hec
                  have hnq := neq_same q
                  go_wp2
                  go_roundw
                  case rel => exact ⟨j + 1, by omega, by go_num, HBy.out.alloc HBy.out.size _⟩
                  case measure => simp [intOf]; omega
                · exact absurd (has_pos HH.out.1) (by rw [HE.out]; omega)
              · go_wp2
                go_ret
                exact ⟨rfl, HS0.out.bel.trans (hbx.mono HS0.out.bel.size)⟩
          · go_wp2
            go_ret
            exact ⟨rfl, hSt.bel⟩

end Go.Proofs.Qxb6609569a
