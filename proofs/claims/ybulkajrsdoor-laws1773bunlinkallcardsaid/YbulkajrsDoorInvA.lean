import Derived.Test.YbulkajrsDoorNew
import Derived.Test.YbulkajrsDoorBits
namespace Go.Proofs.YbulkajrsDoor
open Go.RowKit
set_option linter.unusedVariables false

/-- A level's 'held': nil, or the words in a block of their own. -/
def heldV (nw : Nat) : Option Nat → Value
  | none => .slice none 0 0
  | some b => .slice (some ⟨b, 0, none⟩) nw nw
def upd {α : Type} (f : Nat → α) (l : Nat) (x : α) : Nat → α := fun j => if j = l then x else f j
theorem upd_same {α : Type} (f : Nat → α) (l : Nat) (x : α) : upd f l x l = x := by simp [upd]
theorem upd_other {α : Type} (f : Nat → α) (l : Nat) (x : α) {j : Nat} (h : j ≠ l) : upd f l x j = f j := by simp [upd, h]

/-- What the marks mean behind i rounds: the pairs (ML j, MS j), j < i, and no others. -/
structure Marks (n nw busy i : Nat) (HB : Nat → Option Nat) (H : Nat → Nat → Nat) (ML MS : Nat → Nat) : Prop where
  none_iff : ∀ l, l < n → (HB l = none ↔ ∀ j, j < i → ML j ≠ l)
  zero : ∀ l, HB l = none → ∀ q, H l q = 0
  bit : ∀ l t, l < n → t < 64 * nw → (heldBit (H l) t = true ↔ ∃ j, j < i ∧ ML j = l ∧ MS j = t)
  busy_iff : ∀ l, l < 64 → (busy.testBit l = true ↔ ∃ j, j < i ∧ ML j = l)
  lt : ∀ l q, H l q < 18446744073709551616
  blt : busy < 18446744073709551616

theorem Marks.start (n nw : Nat) (ML MS : Nat → Nat) : Marks n nw 0 0 (fun _ => none) (fun _ _ => 0) ML MS :=
  ⟨fun l _ => ⟨fun _ j hj => by omega, fun _ => rfl⟩, fun _ _ _ => rfl, fun l t _ _ => ⟨fun h => by simp [heldBit] at h, fun ⟨j, hj, _⟩ => by omega⟩,
   fun l _ => ⟨fun h => by simp at h, fun ⟨j, hj, _⟩ => by omega⟩, fun _ _ => by omega, by omega⟩

/-- A level's words are laid: nothing is marked by that. -/
theorem Marks.bit_of_none {n nw busy i : Nat} {HB : Nat → Option Nat} {H : Nat → Nat → Nat} {ML MS : Nat → Nat} (M : Marks n nw busy i HB H ML MS) {l : Nat} (h : HB l = none) (t : Nat) : heldBit (H l) t = false := by
  unfold heldBit; rw [M.zero l h]; simp

/-- The slot was held already. -/
theorem Marks.keep {n nw busy i : Nat} {HB : Nat → Option Nat} {H : Nat → Nat → Nat} {ML MS : Nat → Nat} (M : Marks n nw busy i HB H ML MS) (hl : ML i < n) (hs : MS i < 64 * nw) (hn : n ≤ 64)
    (hb : heldBit (H (ML i)) (MS i) = true) : Marks n nw busy (i + 1) HB H ML MS := by
  obtain ⟨j0, g1, g2, g3⟩ := (M.bit _ _ hl hs).1 hb
  refine ⟨fun l h => ?_, M.zero, fun l t h1 h2 => ?_, fun l h => ?_, M.lt, M.blt⟩
  · rw [M.none_iff l h]
    constructor
    · intro h' j hj
      by_cases e : j = i
      · subst e; rw [← g2]; exact h' j0 g1
      · exact h' j (by omega)
    · intro h' j hj; exact h' j (by omega)
  · rw [M.bit l t h1 h2]
    constructor
    · rintro ⟨j, a, b, c⟩; exact ⟨j, by omega, b, c⟩
    · rintro ⟨j, a, b, c⟩
      by_cases e : j = i
      · subst e; exact ⟨j0, g1, by rw [g2, b], by rw [g3, c]⟩
      · exact ⟨j, by omega, b, c⟩
  · rw [M.busy_iff l h]
    constructor
    · rintro ⟨j, a, b⟩; exact ⟨j, by omega, b⟩
    · rintro ⟨j, a, b⟩
      by_cases e : j = i
      · subst e; exact ⟨j0, g1, by rw [g2, b]⟩
      · exact ⟨j, by omega, b⟩

/-- The slot was free: it is marked. 'HB'' gives the level a block. -/
theorem Marks.set {n nw busy i : Nat} {HB HB' : Nat → Option Nat} {H : Nat → Nat → Nat} {ML MS : Nat → Nat} (M : Marks n nw busy i HB H ML MS) (hl : ML i < n) (hs : MS i < 64 * nw) (hn : n ≤ 64)
    (h1 : HB' (ML i) ≠ none) (h2 : ∀ l, l ≠ ML i → HB' l = HB l) :
    Marks n nw (setBit busy (ML i)) (i + 1) HB' (upd H (ML i) (upd (H (ML i)) (MS i / 64) (setBit (H (ML i) (MS i / 64)) (MS i % 64)))) ML MS := by
  refine ⟨fun l h => ?_, fun l h q => ?_, fun l t g1 g2 => ?_, fun l h => ?_, fun l q => ?_, setBit_lt _ _ M.blt (by omega)⟩
  · by_cases e : l = ML i
    · subst e
      exact ⟨fun h => absurd h h1, fun h => absurd rfl (h i (by omega))⟩
    · rw [h2 l e, M.none_iff l h]
      constructor
      · intro h' j hj
        by_cases e' : j = i
        · subst e'; exact Ne.symm e
        · exact h' j (by omega)
      · intro h' j hj; exact h' j (by omega)
  · by_cases e : l = ML i
    · subst e; exact absurd h h1
    · rw [upd_other _ _ _ e]; exact M.zero l (by rw [← h2 l e]; exact h) q
  · by_cases e : l = ML i
    · subst e
      rw [upd_same]
      have key : heldBit (upd (H (ML i)) (MS i / 64) (setBit (H (ML i) (MS i / 64)) (MS i % 64))) t = (heldBit (H (ML i)) t || decide (MS i = t)) := by
        unfold heldBit
        by_cases e2 : t / 64 = MS i / 64
        · rw [e2, upd_same, testBit_setBit]
          congr 1
          rw [Bool.eq_iff_iff]; simp only [decide_eq_true_eq]; omega
        · rw [upd_other _ _ _ e2]
          have : decide (MS i = t) = false := by simp; intro h; subst h; exact e2 rfl
          rw [this, Bool.or_false]
      rw [key, Bool.or_eq_true, M.bit _ t g1 g2]
      constructor
      · rintro (⟨j, a, b, c⟩ | h)
        · exact ⟨j, by omega, b, c⟩
        · exact ⟨i, by omega, rfl, by simpa using h⟩
      · rintro ⟨j, a, b, c⟩
        by_cases e' : j = i
        · subst e'; right; simpa using c
        · left; exact ⟨j, by omega, b, c⟩
    · rw [upd_other _ _ _ e, M.bit l t g1 g2]
      constructor
      · rintro ⟨j, a, b, c⟩; exact ⟨j, by omega, b, c⟩
      · rintro ⟨j, a, b, c⟩
        by_cases e' : j = i
        · subst e'; exact absurd b.symm e
        · exact ⟨j, by omega, b, c⟩
  · rw [testBit_setBit, Bool.or_eq_true, M.busy_iff l h]
    constructor
    · rintro (⟨j, a, b⟩ | h')
      · exact ⟨j, by omega, b⟩
      · exact ⟨i, by omega, by simpa using h'⟩
    · rintro ⟨j, a, b⟩
      by_cases e' : j = i
      · subst e'; right; simpa using b
      · left; exact ⟨j, by omega, b⟩
  · by_cases e : l = ML i
    · subst e
      rw [upd_same]
      by_cases e2 : q = MS i / 64
      · subst e2; rw [upd_same]; exact setBit_lt _ _ (M.lt _ _) (by omega)
      · rw [upd_other _ _ _ e2]; exact M.lt _ _
    · rw [upd_other _ _ _ e]; exact M.lt _ _

/-! ### What the memory holds behind i rounds -/
structure Bld (w0 w : World) (B L R0 Bm Bs k nw i : Nat) (s : Lv) (HB : Nat → Option Nat) (H : Nat → Nat → Nat) (F : Nat → Int) (ML MS : Nat → Nat) : Prop where
  lv : LvIs w L s
  hrow : w.rowIs s.bh 34 s.n (fun l => heldV nw (HB l))
  words : ∀ l b, l < s.n → HB l = some b → w.rowIs b 22 nw (fun q => .int .u64 (H l q)) ∧ Bs < b
  inj : ∀ l l' b, l < s.n → l' < s.n → HB l = some b → HB l' = some b → l = l'
  frow : w.rowIs s.bf 3 s.n (fun l => .int .i64 (F l))
  mrow : w.rowIs Bm 3 k (fun j => .int .i64 ((if j < i then ML j else 0 : Nat) : Int))
  srow : w.rowIs Bs 22 k (fun j => .int .u64 ((if j < i then MS j else 0 : Nat) : Int))
  res : w.heap[R0]? = some (.cells lvZero.toArray 33 (0, 0))
  below : Below B w0 w
  bL : B ≤ L
  bR : B ≤ R0
  bh : B ≤ s.bh
  bf : B ≤ s.bf
  bm : B ≤ Bm
  bs : B ≤ Bs
  ne1 : s.bf ≠ Bm
  ne2 : R0 ≠ L

theorem rows_ne {w : World} {a b t t' n n' : Nat} {f f' : Nat → Value} (h : w.rowIs a t n f) (h' : w.rowIs b t' n' f') (ht : t ≠ t') : a ≠ b := by
  rintro rfl
  obtain ⟨c, hc, _⟩ := h
  obtain ⟨c', hc', _⟩ := h'
  rw [hc] at hc'
  injection hc' with hc'
  injection hc' with _ hc'
  exact ht hc'
theorem row_lv_ne {w : World} {b t n L : Nat} {f : Nat → Value} {s : Lv} (h : w.rowIs b t n f) (h' : LvIs w L s) (ht : t ≠ 33) : b ≠ L := row_ne h h' ht

section
variable {w0 w : World} {B L R0 Bm Bs k nw i : Nat} {s : Lv} {HB : Nat → Option Nat} {H : Nat → Nat → Nat} {F : Nat → Int} {ML MS : Nat → Nat}

theorem Bld.drew (h : Bld w0 w B L R0 Bm Bs k nw i s HB H F ML MS) : Bld w0 w.drew B L R0 Bm Bs k nw i s HB H F ML MS :=
  { h with lv := h.lv, hrow := h.hrow, words := h.words, frow := h.frow, mrow := h.mrow, srow := h.srow, res := h.res, below := h.below.drew }

/-- The level's words are laid. -/
theorem Bld.lay (h : Bld w0 w B L R0 Bm Bs k nw i s HB H F ML MS) {l : Nat} (hl : l < s.n) (hn : HB l = none) (hz : ∀ q, H l q = 0) :
    Bld w0 ((w.alloc (.cells (madeCells #[.int .u64 0] nw) 22)).setCell ⟨s.bh, l, none⟩ (.slice (some ⟨w.heap.size, 0, none⟩) nw nw)) B L R0 Bm Bs k nw i s (upd HB l (some w.heap.size)) H F ML MS := by
  have hsz := h.below.size
  have r0 : B ≤ w.heap.size := by have := h.hrow.lt; have := h.bh; omega
  have n1 := row_lv_ne h.hrow h.lv (by decide)
  have n2 := rows_ne h.hrow h.frow (by decide)
  have n3 := rows_ne h.hrow h.mrow (by decide)
  have n4 := rows_ne h.hrow h.srow (by decide)
  have n5 := row_ne h.hrow h.res (by decide)
  have hbs := h.srow.lt
  refine { h with lv := (h.lv.alloc _).setOther (Ne.symm n1) _, hrow := ?_, words := ?_, inj := ?_, frow := (h.frow.alloc _).setOther (Ne.symm n2) _, mrow := (h.mrow.alloc _).setOther (Ne.symm n3) _, srow := (h.srow.alloc _).setOther (Ne.symm n4) _, res := ?_, below := (h.below.alloc r0 _).setCell h.bh _ }
  · refine ((h.hrow.alloc _).set l _).congr fun j hj => ?_
    by_cases e : j = l
    · subst e; rw [upd_same]; simp [heldV]
    · rw [upd_other _ _ _ e, if_neg e]
  · intro l' b hl' hb
    by_cases e : l' = l
    · subst e
      rw [upd_same] at hb
      injection hb with hb
      subst hb
      refine ⟨?_, hbs⟩
      have hlt := h.hrow.lt
      refine ((World.rowIs_made w (.int .u64 0) nw 22).setOther (by show w.heap.size ≠ s.bh; omega) _).congr fun q hq => ?_
      rw [hz]; rfl
    · rw [upd_other _ _ _ e] at hb
      obtain ⟨h1, h2⟩ := h.words l' b hl' hb
      exact ⟨(h1.alloc _).setOther (rows_ne h1 h.hrow (by decide)) _, h2⟩
  · intro l1 l2 b h1 h2 e1 e2
    by_cases x1 : l1 = l
    · by_cases x2 : l2 = l
      · omega
      · subst x1
        rw [upd_same] at e1
        rw [upd_other _ _ _ x2] at e2
        injection e1 with e1
        have := (h.words l2 b h2 e2).1.lt
        omega
    · by_cases x2 : l2 = l
      · subst x2
        rw [upd_same] at e2
        rw [upd_other _ _ _ x1] at e1
        injection e2 with e2
        have := (h.words l1 b h1 e1).1.lt
        omega
      · rw [upd_other _ _ _ x1] at e1
        rw [upd_other _ _ _ x2] at e2
        exact h.inj l1 l2 b h1 h2 e1 e2
  · rw [heap_setCell_other _ _ _ _ (Ne.symm n5), Below.heap_alloc _ _ _ (lt_of_heap h.res)]
    exact h.res

/-- A slot is marked. -/
theorem Bld.mark (h : Bld w0 w B L R0 Bm Bs k nw i s HB H F ML MS) {l b q x busy' : Nat} {f : Int} (hl : l < s.n) (hb : HB l = some b) :
    Bld w0 (((w.setCell ⟨b, q, none⟩ (.int .u64 x)).setCell ⟨s.bf, l, none⟩ (.int .i64 f)).setCell ⟨L, 69, none⟩ (.int .u64 busy')) B L R0 Bm Bs k nw i { s with busy := busy' } HB (upd H l (upd (H l) q x)) (upd F l f) ML MS := by
  obtain ⟨hw, hbs⟩ := h.words l b hl hb
  have n0 := rows_ne hw h.frow (by decide)
  have n1 := rows_ne hw h.hrow (by decide)
  have n2 := row_lv_ne hw h.lv (by decide)
  have n3 := row_lv_ne h.frow h.lv (by decide)
  have n4 := row_lv_ne h.hrow h.lv (by decide)
  have n5 := rows_ne h.hrow h.frow (by decide)
  have n6 := rows_ne h.srow h.frow (by decide)
  have n7 := row_lv_ne h.srow h.lv (by decide)
  have n8 := row_lv_ne h.mrow h.lv (by decide)
  have n9 := rows_ne hw h.mrow (by decide)
  have n10 := row_ne hw h.res (by decide)
  have n11 := row_ne h.frow h.res (by decide)
  have b1 := h.bs
  refine { h with lv := ?_, hrow := ((h.hrow.setOther (Ne.symm n1) _).setOther n5 _).setOther n4 _, words := ?_, frow := ?_, mrow := ((h.mrow.setOther (Ne.symm n9) _).setOther (Ne.symm h.ne1) _).setOther n8 _, srow := ((h.srow.setOther (by show Bs ≠ b; omega) _).setOther n6 _).setOther n7 _, res := ?_, below := ((h.below.setCell (p := ⟨b, q, none⟩) (by show B ≤ b; omega) _).setCell h.bf _).setCell h.bL _ }
  · exact ((h.lv.setOther (Ne.symm n2) _).setOther (Ne.symm n3) _).set 69 _ (set_busy s busy')
  · intro l' b' hl' hb'
    obtain ⟨hw', hbs'⟩ := h.words l' b' hl' hb'
    refine ⟨?_, hbs'⟩
    by_cases e : l' = l
    · subst e
      rw [hb] at hb'
      injection hb' with hb'
      subst hb'
      refine (((hw'.set q _).setOther n0 _).setOther n2 _).congr fun q' hq' => ?_
      rw [upd_same]
      by_cases e2 : q' = q
      · subst e2; rw [upd_same]; simp
      · rw [upd_other _ _ _ e2, if_neg e2]
    · have hne : b' ≠ b := fun e' => e (h.inj l' l b hl' hl (e' ▸ hb') hb)
      rw [upd_other _ _ _ e]
      exact ((hw'.setOther hne _).setOther (rows_ne hw' h.frow (by decide)) _).setOther (row_lv_ne hw' h.lv (by decide)) _
  · refine (((h.frow.setOther (Ne.symm n0) _).set l _).setOther n3 _).congr fun j hj => ?_
    by_cases e : j = l
    · subst e; rw [upd_same]; simp
    · rw [upd_other _ _ _ e, if_neg e]
  · rw [heap_setCell_other _ _ _ _ h.ne2, heap_setCell_other _ _ _ _ (Ne.symm n11), heap_setCell_other _ _ _ _ (Ne.symm n10)]
    exact h.res

/-- The pair is noted. -/
theorem Bld.note (h : Bld w0 w B L R0 Bm Bs k nw i s HB H F ML MS) (hi : i < k) :
    Bld w0 ((w.setCell ⟨Bm, i, none⟩ (.int .i64 (ML i))).setCell ⟨Bs, i, none⟩ (.int .u64 (MS i))) B L R0 Bm Bs k nw (i + 1) s HB H F ML MS := by
  have n1 := row_lv_ne h.mrow h.lv (by decide)
  have n2 := row_lv_ne h.srow h.lv (by decide)
  have n3 := rows_ne h.hrow h.mrow (by decide)
  have n4 := rows_ne h.hrow h.srow (by decide)
  have n5 := rows_ne h.frow h.srow (by decide)
  have n6 := rows_ne h.mrow h.srow (by decide)
  have n7 := row_ne h.mrow h.res (by decide)
  have n8 := row_ne h.srow h.res (by decide)
  refine { h with lv := (h.lv.setOther (Ne.symm n1) _).setOther (Ne.symm n2) _, hrow := (h.hrow.setOther n3 _).setOther n4 _, words := ?_, frow := (h.frow.setOther h.ne1 _).setOther n5 _, mrow := ?_, srow := ?_, res := ?_, below := (h.below.setCell h.bm _).setCell h.bs _ }
  · intro l b hl hb
    obtain ⟨hw, hbs⟩ := h.words l b hl hb
    exact ⟨(hw.setOther (rows_ne hw h.mrow (by decide)) _).setOther (by show b ≠ Bs; omega) _, hbs⟩
  · refine ((h.mrow.set i _).setOther n6 _).congr fun j hj => ?_
    by_cases e : j = i
    · subst e; simp
    · rw [if_neg e]
      by_cases e2 : j < i
      · rw [if_pos e2, if_pos (by omega)]
      · rw [if_neg e2, if_neg (by omega)]
  · refine ((h.srow.setOther (Ne.symm n6) _).set i _).congr fun j hj => ?_
    by_cases e : j = i
    · subst e; simp
    · rw [if_neg e]
      by_cases e2 : j < i
      · rw [if_pos e2, if_pos (by omega)]
      · rw [if_neg e2, if_neg (by omega)]
  · rw [heap_setCell_other _ _ _ _ (Ne.symm n8), heap_setCell_other _ _ _ _ (Ne.symm n7)]
    exact h.res
end
end Go.Proofs.YbulkajrsDoor
