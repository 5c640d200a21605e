import Derived.Test.YbulkajrsDoorLeaf
import Derived.Deep.OwnRows
import Derived.Deep.WholeRow
namespace Go.Proofs.YbulkajrsDoor
open Go.RowKit
set_option linter.unusedVariables false

/-! ### A 'levels' in memory -/
/-- What a 'levels' holds: slots, shift, digitOf, the number of levels, the blocks behind level, held, full, ahead, and the four numbers. -/
structure Lv where
  slots : Nat
  shift : Nat
  dig : Nat → Nat
  n : Nat
  bl : Nat
  bh : Nat
  bf : Nat
  ba : Nat
  busy : Nat
  now : Nat
  count : Int
  round : Nat

/-- Its nine last cells. -/
def lvTail (s : Lv) : List Value :=
  [.slice (some ⟨s.bl, 0, none⟩) s.n s.n, .slice (some ⟨s.bh, 0, none⟩) s.n s.n, .slice (some ⟨s.bf, 0, none⟩) s.n s.n,
   .int .u64 s.busy, .int .u64 s.now, .int .i64 s.count, .int .u32 s.round, .slice (some ⟨s.ba, 0, none⟩) s.n s.n]
/-- Its cells. -/
def lvList (s : Lv) : List Value :=
  .int .u64 s.slots :: .int .u64 s.shift :: ((List.range 64).map (fun b => Value.int .u8 (s.dig b)) ++ lvTail s)
/-- The zero value's cells. -/
def lvZero : List Value :=
  .int .u64 0 :: .int .u64 0 :: ((List.range 64).map (fun _ => Value.int .u8 0) ++
    [.slice none 0 0, .slice none 0 0, .slice none 0 0, .int .u64 0, .int .u64 0, .int .i64 0, .int .u32 0, .slice none 0 0])

theorem length_lvList (s : Lv) : (lvList s).length = 74 := by simp [lvList, lvTail]
theorem length_lvZero : lvZero.length = 74 := by simp [lvZero]
theorem one_lvList (s : Lv) : (lvList s).toArray.all (·.oneCell') = true := by
  rw [Array.all_eq_true_iff_forall_mem]
  intro v hv
  simp [lvList, lvTail] at hv
  rcases hv with rfl | rfl | ⟨b, _, rfl⟩ | rfl | rfl | rfl | rfl | rfl | rfl | rfl | rfl <;> rfl

/-- Block L is a 'levels' that holds s. -/
def LvIs (w : World) (L : Nat) (s : Lv) : Prop := w.heap[L]? = some (.cells (lvList s).toArray 33 (0, 0))

theorem LvIs.get {w : World} {L : Nat} {s : Lv} (h : LvIs w L s) (i : Nat) : w.cell? ⟨L, i, none⟩ = (lvList s)[i]? := by
  rw [cell_of_row w L i _ _ _ h]; simp
theorem LvIs.frozen {w : World} {L : Nat} {s : Lv} (h : LvIs w L s) (i : Nat) : w.frozen? ⟨L, i, none⟩ = false := frozen_of_row w L i _ _ h
theorem LvIs.lt {w : World} {L : Nat} {s : Lv} (h : LvIs w L s) : L < w.heap.size := by
  apply Nat.lt_of_not_le; intro hle
  unfold LvIs at h
  rw [Array.getElem?_eq_none hle] at h; cases h
theorem LvIs.of_block {w w' : World} {L : Nat} {s : Lv} (h : LvIs w L s) (e : w'.heap[L]? = w.heap[L]?) : LvIs w' L s := e.trans h
theorem LvIs.slots {w : World} {L : Nat} {s : Lv} (h : LvIs w L s) : w.cell? ⟨L, 0, none⟩ = some (.int .u64 s.slots) := by rw [h.get]; rfl
theorem LvIs.shift {w : World} {L : Nat} {s : Lv} (h : LvIs w L s) : w.cell? ⟨L, 1, none⟩ = some (.int .u64 s.shift) := by rw [h.get]; rfl
theorem lv_tail (s : Lv) (i : Nat) : (lvList s)[66 + i]? = (lvTail s)[i]? := by
  unfold lvList
  rw [show 66 + i = 64 + i + 1 + 1 by omega, List.getElem?_cons_succ, List.getElem?_cons_succ, List.getElem?_append_right (by simp)]
  simp
theorem LvIs.level {w : World} {L : Nat} {s : Lv} (h : LvIs w L s) : w.cell? ⟨L, 66, none⟩ = some (.slice (some ⟨s.bl, 0, none⟩) s.n s.n) := by rw [h.get, lv_tail s 0]; rfl
theorem LvIs.held {w : World} {L : Nat} {s : Lv} (h : LvIs w L s) : w.cell? ⟨L, 67, none⟩ = some (.slice (some ⟨s.bh, 0, none⟩) s.n s.n) := by rw [h.get, lv_tail s 1]; rfl
theorem LvIs.full {w : World} {L : Nat} {s : Lv} (h : LvIs w L s) : w.cell? ⟨L, 68, none⟩ = some (.slice (some ⟨s.bf, 0, none⟩) s.n s.n) := by rw [h.get, lv_tail s 2]; rfl
theorem LvIs.busy {w : World} {L : Nat} {s : Lv} (h : LvIs w L s) : w.cell? ⟨L, 69, none⟩ = some (.int .u64 s.busy) := by rw [h.get, lv_tail s 3]; rfl
theorem LvIs.now {w : World} {L : Nat} {s : Lv} (h : LvIs w L s) : w.cell? ⟨L, 70, none⟩ = some (.int .u64 s.now) := by rw [h.get, lv_tail s 4]; rfl
theorem LvIs.count {w : World} {L : Nat} {s : Lv} (h : LvIs w L s) : w.cell? ⟨L, 71, none⟩ = some (.int .i64 s.count) := by rw [h.get, lv_tail s 5]; rfl
theorem LvIs.round {w : World} {L : Nat} {s : Lv} (h : LvIs w L s) : w.cell? ⟨L, 72, none⟩ = some (.int .u32 s.round) := by rw [h.get, lv_tail s 6]; rfl
theorem LvIs.ahead {w : World} {L : Nat} {s : Lv} (h : LvIs w L s) : w.cell? ⟨L, 73, none⟩ = some (.slice (some ⟨s.ba, 0, none⟩) s.n s.n) := by rw [h.get, lv_tail s 7]; rfl
theorem LvIs.dig {w : World} {L : Nat} {s : Lv} (h : LvIs w L s) {b : Nat} (hb : b < 64) : w.cell? ⟨L, 2 + b, none⟩ = some (.int .u8 (s.dig b)) := by
  rw [h.get]; unfold lvList
  rw [show 2 + b = b + 1 + 1 by omega, List.getElem?_cons_succ, List.getElem?_cons_succ, List.getElem?_append_left (by simpa using hb)]
  simp [hb]

/-! Stores into one of its cells. -/
theorem LvIs.set {w : World} {L : Nat} {s s' : Lv} (h : LvIs w L s) (i : Nat) (v : Value) (e : (lvList s).set i v = lvList s') : LvIs (w.setCell ⟨L, i, none⟩ v) L s' := by
  unfold LvIs at *
  rw [heap_setCell_same w L i _ 33 v h]
  simp [e]
theorem LvIs.setOther {w : World} {L : Nat} {s : Lv} (h : LvIs w L s) {a : Addr} (ha : L ≠ a.block) (v : Value) : LvIs (w.setCell a v) L s := h.of_block (heap_setCell_other _ _ _ _ ha)
theorem LvIs.alloc {w : World} {L : Nat} {s : Lv} (h : LvIs w L s) (o : Obj) : LvIs (w.alloc o) L s := h.of_block (Below.heap_alloc _ _ _ h.lt)
theorem lv_set_tail (s : Lv) (i : Nat) (v : Value) : (lvList s).set (66 + i) v = .int .u64 s.slots :: .int .u64 s.shift :: ((List.range 64).map (fun b => Value.int .u8 (s.dig b)) ++ (lvTail s).set i v) := by
  unfold lvList
  rw [show 66 + i = 64 + i + 1 + 1 by omega, List.set_cons_succ, List.set_cons_succ, List.set_append_right _ _ (by simp)]
  simp
theorem set_busy (s : Lv) (b : Nat) : (lvList s).set 69 (.int .u64 b) = lvList { s with busy := b } := lv_set_tail s 3 _
theorem set_now (s : Lv) (b : Nat) : (lvList s).set 70 (.int .u64 b) = lvList { s with now := b } := lv_set_tail s 4 _
theorem set_count (s : Lv) (b : Int) : (lvList s).set 71 (.int .i64 b) = lvList { s with count := b } := lv_set_tail s 5 _
theorem set_shift (s : Lv) (b : Nat) : (lvList s).set 1 (.int .u64 b) = lvList { s with shift := b } := rfl
theorem set_dig (s : Lv) (k v : Nat) (hk : k < 64) : (lvList s).set (2 + k) (.int .u8 v) = lvList { s with dig := fun b => if b = k then v else s.dig b } := by
  unfold lvList
  rw [show 2 + k = k + 1 + 1 by omega, List.set_cons_succ, List.set_cons_succ, List.set_append_left _ _ (by simpa using hk)]
  congr 3
  apply List.ext_getElem?
  intro i
  rw [List.getElem?_set]
  by_cases hi : i < 64
  · by_cases e : k = i
    · subst e; simp [hi]
    · simp [hi, e, Ne.symm e]
  · by_cases e : k = i
    · omega
    · rw [if_neg e, List.getElem?_eq_none (by simp; omega), List.getElem?_eq_none (by simp; omega)]

/-! ### The walk's laws at this type -/
theorem Ybad.info33 : (Ybad.prog.info? 33).map (fun i => (i.zero, i.size)) = some (some (.agg lvZero.toArray), 74) := by kernel_rfl
theorem Ybad.size33 : (Ybad.prog.info? 33).map (·.size) = some 74 := by kernel_rfl

theorem run_alloc33 (w : World) : (Instr.alloc 33 true (.tuple #[])).run Ybad.prog w = .ok (.pointer (some ⟨w.heap.size, 0, none⟩)) (w.alloc (.cells lvZero.toArray 33)) := by
  have hz := (zero_of_info Ybad.info33).1 w
  simp [Instr.alloc, hz, newVar, Value.cells, go_sem]
theorem wp_alloc33 {o : Oper} {a : Act} {w : World} {K : Act → World → Prop} {Q : Exit → Act → World → Prop} (ho : o.op = .alloc 33)
    (h : K (a.put o.dst (.pointer (some ⟨w.heap.size, 0, none⟩))) (w.alloc (.cells lvZero.toArray 33))) : o.wp Ybad.prog a w K Q := by
  unfold Oper.wp execOp
  simp only [ho, Sem.run_bind, Sem.run_pure, Result.andThen_ok, run_alloc33]
  exact h
theorem wpList_alloc33 {ops : Array Oper} {rest : List Oper} {o : Oper} {a : Act} {w : World} {Q : Exit → Act → World → Prop} (hgd : o.guard = none) (ho : o.op = .alloc 33)
    (h : wpList Ybad.prog ops Q rest (a.put o.dst (.pointer (some ⟨w.heap.size, 0, none⟩))) (w.alloc (.cells lvZero.toArray 33))) : wpList Ybad.prog ops Q (o :: rest) a w :=
  wpList_plain hgd fun _ hK => wp_alloc33 ho (hK _ _ h)

/-- 'x := ..' of this type: the new variable holds it. -/
theorem wpList_var33 {ops : Array Oper} {rest : List Oper} {o1 o2 : Oper} {a : Act} {w : World} {Q : Exit → Act → World → Prop} (hg1 : o1.guard = none) (ho1 : o1.op = .alloc 33) (d : Nat) (hd : o1.dst = some d)
    (hg2 : o2.guard = none) (y : Operand) (ho2 : o2.op = .store 33 (.tmp d) y) (hd2 : o2.dst = none) (s : Lv)
    (hp : (a.put (some d) (.pointer (some ⟨w.heap.size, 0, none⟩))).eval (.tmp d) = .pointer (some ⟨w.heap.size, 0, none⟩))
    (hy : (a.put (some d) (.pointer (some ⟨w.heap.size, 0, none⟩))).eval y = .agg (lvList s).toArray)
    (h : wpList Ybad.prog ops Q rest (a.put (some d) (.pointer (some ⟨w.heap.size, 0, none⟩))) (w.alloc (.cells (lvList s).toArray 33))) : wpList Ybad.prog ops Q (o1 :: o2 :: rest) a w := by
  refine wpList_alloc33 hg1 ho1 ?_
  rw [hd]
  refine wpList_store_row hg2 33 (.tmp d) y ho2 w.heap.size (lvList s).toArray hp hy 33 lvZero.toArray (heap_alloc_new _ _) (by rw [Ybad.size33]; simp [length_lvList]) (by simp [length_lvList, length_lvZero]) (one_lvList s) ?_
  rw [hd2, World.setRow_alloc_new]
  exact h

/-- The same, the new world a letter. -/
theorem wpList_newvar33 {ops : Array Oper} {rest : List Oper} {o1 o2 : Oper} {a : Act} {w : World} {Q : Exit → Act → World → Prop} (hg1 : o1.guard = none) (ho1 : o1.op = .alloc 33) (d : Nat) (hd : o1.dst = some d)
    (hg2 : o2.guard = none) (y : Operand) (ho2 : o2.op = .store 33 (.tmp d) y) (hd2 : o2.dst = none) (s : Lv)
    (hp : (a.put (some d) (.pointer (some ⟨w.heap.size, 0, none⟩))).eval (.tmp d) = .pointer (some ⟨w.heap.size, 0, none⟩))
    (hy : (a.put (some d) (.pointer (some ⟨w.heap.size, 0, none⟩))).eval y = .agg (lvList s).toArray)
    (h : ∀ (L : Nat) (W : World), w.heap.size = L → LvIs W L s → W.heap.size = L + 1 → Below L w W → wpList Ybad.prog ops Q rest (a.put (some d) (.pointer (some ⟨L, 0, none⟩))) W) : wpList Ybad.prog ops Q (o1 :: o2 :: rest) a w :=
  wpList_var33 hg1 ho1 d hd hg2 y ho2 hd2 s hp hy (h _ _ rfl (heap_alloc_new _ _) (by simp) ((Below.refl _ _).alloc (Nat.le_refl _) _))

/-- The load of a whole 'levels'. -/
theorem wpList_load33 {ops : Array Oper} {rest : List Oper} {o : Oper} {a : Act} {w : World} {Q : Exit → Act → World → Prop} (hgd : o.guard = none) (x : Operand) (ho : o.op = .load 33 x)
    (L : Nat) (hx : a.eval x = .pointer (some ⟨L, 0, none⟩)) (s : Lv) (hL : LvIs w L s)
    (h : wpList Ybad.prog ops Q rest (a.put o.dst (.agg (lvList s).toArray)) w) : wpList Ybad.prog ops Q (o :: rest) a w :=
  wpList_load_row hgd 33 x ho L hx 33 _ (0, 0) _ hL Ybad.underlying33 rfl (by rw [Ybad.size33]; simp [length_lvList]) h

end Go.Proofs.YbulkajrsDoor
