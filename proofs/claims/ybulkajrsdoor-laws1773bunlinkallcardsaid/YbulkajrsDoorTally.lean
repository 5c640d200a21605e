import Derived.Test.YbulkajrsDoorMoves
import Derived.Test.YbulkajrsDoorHold
import Derived.Test.YbulkajrsDoorFind
import Derived.Test.YbulkajrsDoorInvA
namespace Go.Proofs.YbulkajrsDoor
open Go.RowKit
set_option linter.unusedVariables false

/-! ### Counting -/
def cnt : Nat → (Nat → Bool) → Nat
  | 0, _ => 0
  | k + 1, f => cnt k f + (if f k = true then 1 else 0)
theorem cnt_congr {f g : Nat → Bool} : ∀ (k : Nat), (∀ t, t < k → f t = g t) → cnt k f = cnt k g
  | 0, _ => rfl
  | k + 1, h => by unfold cnt; rw [cnt_congr k (fun t ht => h t (by omega)), h k (by omega)]
theorem cnt_on {f : Nat → Bool} {t : Nat} (hf : f t = false) : ∀ (k : Nat), t < k → cnt k (upd f t true) = cnt k f + 1
  | 0, h => by omega
  | k + 1, h => by
    unfold cnt
    by_cases e : t = k
    · subst e
      rw [upd_same, hf, cnt_congr t (fun j hj => upd_other f t true (by omega))]; simp
    · rw [upd_other f t true (by omega), cnt_on hf k (by omega)]; omega
theorem cnt_off {f : Nat → Bool} {t : Nat} (hf : f t = true) : ∀ (k : Nat), t < k → cnt k f = cnt k (upd f t false) + 1
  | 0, h => by omega
  | k + 1, h => by
    unfold cnt
    by_cases e : t = k
    · subst e
      rw [upd_same, hf, cnt_congr t (f := upd f t false) (g := f) (fun j hj => upd_other f t false (by omega))]; simp
    · rw [upd_other f t false (by omega), cnt_off hf k (by omega)]; omega
theorem cnt_zero {f : Nat → Bool} : ∀ (k : Nat), cnt k f = 0 ↔ ∀ t, t < k → f t = false
  | 0 => ⟨fun _ t h => by omega, fun _ => rfl⟩
  | k + 1 => by
    unfold cnt
    constructor
    · intro h t ht
      by_cases e : t = k
      · subst e; cases hf : f t with
        | false => rfl
        | true => rw [hf] at h; simp at h
      · exact (cnt_zero k).1 (by omega) t (by omega)
    · intro h
      rw [(cnt_zero k).2 (fun t ht => h t (by omega)), h k (by omega)]; simp
theorem cnt_le {f : Nat → Bool} : ∀ (k : Nat), cnt k f ≤ k
  | 0 => Nat.le_refl _
  | k + 1 => by unfold cnt; have := cnt_le (f := f) k; split <;> omega

/-! ### The levels' own rows -/
def slotsV (N : Nat) : Option Nat → Value
  | none => .slice none 0 0
  | some b => .slice (some ⟨b, 0, none⟩) N N

structure RI (w : World) (B L N : Nat) (s : Lv) (LB HB : Nat → Option Nat) (H : Nat → Nat) (hs : Nat → Nat → Bool) : Prop where
  lv : LvIs w L s
  e0 : s.slots = N
  e1 : s.shift = shOf N
  e2 : s.dig = fun b => if b < 64 then b / shOf N else 0
  e3 : s.now = 0
  e4 : s.round = 0
  n64 : s.n ≤ 64
  lrow : w.rowIs s.bl 73 s.n (fun l => slotsV N (LB l))
  hrow : w.rowIs s.bh 34 s.n (fun l => heldV 1 (HB l))
  same : ∀ l, l < s.n → (LB l = none ↔ HB l = none)
  words : ∀ l b, l < s.n → HB l = some b → w.rowIs b 22 1 (fun _ => .int .u64 (H l)) ∧ B ≤ b
  inj : ∀ l l' b, l < s.n → l' < s.n → HB l = some b → HB l' = some b → l = l'
  frow : w.rowIs s.bf 3 s.n (fun l => .int .i64 (cnt N (hs l) : Nat))
  arow : w.rowIs s.ba 74 s.n (fun _ => .pointer none)
  bit : ∀ l t, l < s.n → t < N → HB l ≠ none → (H l).testBit t = hs l t
  off : ∀ l t, l < s.n → HB l = none → hs l t = false
  lt : ∀ l, H l < 18446744073709551616
  busy : ∀ l, l < 64 → (s.busy.testBit l = true ↔ l < s.n ∧ cnt N (hs l) ≠ 0)
  blt : s.busy < 18446744073709551616
  bL : B ≤ L
  bbl : B ≤ s.bl
  bbh : B ≤ s.bh
  bbf : B ≤ s.bf
  bba : B ≤ s.ba

theorem LvIs.isB {w : World} {L : Nat} {s : Lv} (h : LvIs w L s) : IsB w L 33 74 := ⟨_, h, by simp [length_lvList]⟩

/-- Nothing of it has turned. -/
theorem RI.of_blocks {w w' : World} {B L N : Nat} {s : Lv} {LB HB : Nat → Option Nat} {H : Nat → Nat} {hs : Nat → Nat → Bool} (r : RI w B L N s LB HB H hs)
    (h : ∀ k t z, IsB w k t z → t ≠ 72 → t ≠ 51 → w'.heap[k]? = w.heap[k]?) : RI w' B L N s LB HB H hs :=
  { r with
    lv := r.lv.of_block (h _ _ _ r.lv.isB (by decide) (by decide))
    lrow := r.lrow.of_block (h _ _ _ (IsB.of_row r.lrow) (by decide) (by decide))
    hrow := r.hrow.of_block (h _ _ _ (IsB.of_row r.hrow) (by decide) (by decide))
    words := fun l b hl hb => ⟨(r.words l b hl hb).1.of_block (h _ _ _ (IsB.of_row (r.words l b hl hb).1) (by decide) (by decide)), (r.words l b hl hb).2⟩
    frow := r.frow.of_block (h _ _ _ (IsB.of_row r.frow) (by decide) (by decide))
    arow := r.arow.of_block (h _ _ _ (IsB.of_row r.arow) (by decide) (by decide)) }
theorem Ptrs.blocks {B : Nat} {w w' : World} (h : Ptrs B w w') : ∀ k t z, IsB w k t z → t ≠ 72 → t ≠ 51 → w'.heap[k]? = w.heap[k]? :=
  fun k t z hk h1 h2 => h.other k (fun z' hz => h1 (hk.ty hz)) (fun z' hz => h2 (hk.ty hz))

/-- What hands on everything but the levels' own numbers. -/
structure KeepR (B : Nat) (w w' : World) : Prop where
  os : w'.os = w.os
  tape : w'.tape = w.tape
  output : w'.output = w.output
  size : w.heap.size ≤ w'.heap.size
  blk : ∀ k, k < B → w'.heap[k]? = w.heap[k]?
  typ : ∀ k t z, IsB w k t z → t = 72 ∨ t = 51 ∨ t = 45 → w'.heap[k]? = w.heap[k]?
theorem KeepR.refl (B : Nat) (w : World) : KeepR B w w := ⟨rfl, rfl, rfl, Nat.le_refl _, fun _ _ => rfl, fun _ _ _ _ _ => rfl⟩
theorem KeepR.drew {B : Nat} {a w : World} (h : KeepR B a w) : KeepR B a w.drew := ⟨h.os, h.tape, h.output, h.size, h.blk, h.typ⟩
theorem KeepR.set {B : Nat} {a w : World} (h : KeepR B a w) {A : Addr} {t z : Nat} (hA : IsB a A.block t z) (h1 : t ≠ 72) (h2 : t ≠ 51) (h3 : t ≠ 45) (hB : B ≤ A.block) (v : Value) : KeepR B a (w.setCell A v) :=
  ⟨h.os, h.tape, h.output, by simp [World.setCell]; exact h.size, fun k hk => (heap_setCell_other _ _ _ _ (by omega)).trans (h.blk k hk),
   fun k t' z' hk ht => (heap_setCell_other _ _ _ _ (fun e => by
     have := IsB.ty hA (e ▸ hk)
     subst this
     rcases ht with h | h | h
     · exact h1 h
     · exact h2 h
     · exact h3 h)).trans (h.typ k t' z' hk ht)⟩
theorem KeepR.trans {B : Nat} {a b c : World} (h : KeepR B a b) (k : KeepR B b c) : KeepR B a c :=
  ⟨k.os.trans h.os, k.tape.trans h.tape, k.output.trans h.output, Nat.le_trans h.size k.size, fun i hi => (k.blk i hi).trans (h.blk i hi),
   fun i t z hi ht => (k.typ i t z (hi.of_block (h.typ i t z hi ht)) ht).trans (h.typ i t z hi ht)⟩

def upd2 (f : Nat → Nat → Bool) (l t : Nat) (v : Bool) : Nat → Nat → Bool := upd f l (upd (f l) t v)
theorem upd2_id {f : Nat → Nat → Bool} {l t : Nat} {v : Bool} (h : f l t = v) : upd2 f l t v = f := by
  funext a b
  unfold upd2 upd
  by_cases e : a = l
  · subst e
    by_cases e2 : b = t
    · subst e2; simp [h]
    · simp [e2]
  · simp [e]

/-- The row of counts behind a store. -/
theorem fcongr {w : World} {b n N l : Nat} {hs : Nat → Nat → Bool} {g : Nat → Bool} {c : Int} (h : w.rowIs b 3 n (fun j => if j = l then .int .i64 c else .int .i64 (cnt N (hs j) : Nat))) (hc : c = (cnt N g : Nat)) :
    w.rowIs b 3 n (fun j => .int .i64 (cnt N (upd hs l g j) : Nat)) := by
  refine h.congr (fun j hj => ?_)
  by_cases e : j = l
  · subst e; rw [if_pos rfl, upd_same, hc]
  · rw [if_neg e, upd_other _ _ _ e]

theorem hold_on {w : World} {B L N : Nat} {s : Lv} {LB HB : Nat → Option Nat} {H : Nat → Nat} {hs : Nat → Nat → Bool} (r : RI w B L N s LB HB H hs) (l t : Nat) (hl : l < s.n) (ht : t < N) (hN : N ≤ 64) (hb : HB l ≠ none) :
    Calls Ybad.prog 17 #[.pointer (some ⟨L, 0, none⟩), .int .i64 l, .int .u64 t, .bool true] w fun e w' => e = .returned (.tuple #[]) ∧
      (∃ busy' H', RI w' B L N { s with busy := busy' } LB HB H' (upd2 hs l t true)) ∧ KeepR B w w' := by
  obtain ⟨hbk, hhb⟩ := Option.ne_none_iff_exists'.1 hb
  obtain ⟨wr, wB⟩ := r.words l hbk hl hhb
  have n64 := r.n64
  have t0 : t / 64 = 0 := by omega
  have tm : t % 64 = t := by omega
  have c2 := r.hrow.cell hl
  rw [hhb] at c2
  have c3 := wr.cell (i := 0) (by omega)
  rw [← t0] at c3
  have hbit := r.bit l t hl ht hb
  have n1 : hbk ≠ L := (IsB.of_row wr).ne r.lv.isB (by decide)
  have n2 : hbk ≠ s.bf := (IsB.of_row wr).ne (IsB.of_row r.frow) (by decide)
  have n3 : s.bf ≠ L := (IsB.of_row r.frow).ne r.lv.isB (by decide)
  cases hv : hs l t with
  | true =>
    refine (hold_keep L s.bh hbk s.n 1 l t (H l) w hl n64 (by omega) (by omega) (by omega) r.lv.held c2 c3 (by rw [bit_zero _ _ (r.lt l) (by omega), tm, hbit, hv]; rfl)).mono ?_
    rintro e w' ⟨he, rfl⟩
    exact ⟨he, ⟨s.busy, H, by rw [upd2_id hv]; exact r⟩, KeepR.refl _ _⟩
  | false =>
    refine (hold_set L s.bh s.bf hbk s.n 1 l t (H l) s.busy _ w hl n64 (by omega) (by omega) (by omega) r.lv.held c2 c3 (wr.frozen _) r.lv.full (r.frow.cell hl) (r.frow.frozen _) r.lv.busy (r.lv.frozen _) n1 n2 n3
      (by rw [bit_zero _ _ (r.lt l) (by omega), tm, hbit, hv]; rfl)).mono ?_
    rintro e w' ⟨he, rfl⟩
    have hc64 := cnt_le (f := hs l) N
    have hon := cnt_on hv N ht
    have hF : wrap64 ((cnt N (hs l) : Nat) + 1 : Int) = (cnt N (upd (hs l) t true) : Nat) := by
      rw [hon]
      generalize cnt N (hs l) = C at *
      simp only [wrap64]
      omega
    rw [hF, bit_or _ _ (r.lt l) (by omega), bit_or _ _ r.blt (by omega), tm, t0]
    have hw1 : (w.setCell ⟨hbk, 0, none⟩ (.int .u64 (setBit (H l) t : Nat))).rowIs hbk 22 1 (fun _ => .int .u64 (setBit (H l) t : Nat)) := (wr.set 0 _).congr (fun i hi => by rw [if_pos (by omega)])
    refine ⟨he, ⟨setBit s.busy l, upd H l (setBit (H l) t), ?_⟩, (((KeepR.refl B w).set (A := ⟨hbk, 0, none⟩) (IsB.of_row wr) (by decide) (by decide) (by decide) wB _).set (A := ⟨s.bf, l, none⟩) (IsB.of_row r.frow) (by decide) (by decide) (by decide) r.bbf _).set (A := ⟨L, 69, none⟩) r.lv.isB (by decide) (by decide) (by decide) r.bL _ |>.drew⟩
    have keep : ∀ k, k ≠ hbk → k ≠ s.bf → k ≠ L → ((((w.setCell ⟨hbk, 0, none⟩ (.int .u64 (setBit (H l) t : Nat))).setCell ⟨s.bf, l, none⟩ (.int .i64 (cnt N (upd (hs l) t true) : Nat))).setCell ⟨L, 69, none⟩ (.int .u64 (setBit s.busy l : Nat))).drew).heap[k]? = w.heap[k]? :=
      fun k h1 h2 h3 => (heap_setCell_other _ _ _ _ h3).trans ((heap_setCell_other _ _ _ _ h2).trans (heap_setCell_other _ _ _ _ h1))
    have rk : ∀ {k ty z : Nat} {f : Nat → Value}, w.rowIs k ty z f → ty ≠ 22 → ty ≠ 3 → ty ≠ 33 → ((((w.setCell ⟨hbk, 0, none⟩ (.int .u64 (setBit (H l) t : Nat))).setCell ⟨s.bf, l, none⟩ (.int .i64 (cnt N (upd (hs l) t true) : Nat))).setCell ⟨L, 69, none⟩ (.int .u64 (setBit s.busy l : Nat))).drew).rowIs k ty z f :=
      fun h a1 a2 a3 => h.of_block (keep _ ((IsB.of_row h).ne (IsB.of_row wr) a1) ((IsB.of_row h).ne (IsB.of_row r.frow) a2) ((IsB.of_row h).ne r.lv.isB a3))
    refine { r with lv := ?_, lrow := rk r.lrow (by decide) (by decide) (by decide), hrow := rk r.hrow (by decide) (by decide) (by decide), words := ?_, frow := ?_, arow := rk r.arow (by decide) (by decide) (by decide), bit := ?_, off := ?_, lt := ?_, busy := ?_, blt := setBit_lt s.busy l r.blt (show l < 64 by omega) }
    · exact ((r.lv.setOther (a := ⟨hbk, 0, none⟩) (Ne.symm n1) _).setOther (a := ⟨s.bf, l, none⟩) (Ne.symm n3) _).set 69 _ (set_busy s _)
    · intro l' b' hl' hb'
      obtain ⟨wr', wB'⟩ := r.words l' b' hl' hb'
      refine ⟨?_, wB'⟩
      by_cases e : l' = l
      · subst e
        rw [hhb] at hb'
        cases hb'
        rw [upd_same]
        exact (hw1.setOther (a := ⟨s.bf, l', none⟩) n2 _).setOther (a := ⟨L, 69, none⟩) n1 _
      · rw [upd_other _ _ _ e]
        exact wr'.of_block (keep _ (fun h => e (r.inj l' l b' hl' hl hb' (h ▸ hhb))) ((IsB.of_row wr').ne (IsB.of_row r.frow) (by decide)) ((IsB.of_row wr').ne r.lv.isB (by decide)))
    · exact fcongr ((((r.frow.setOther (a := ⟨hbk, 0, none⟩) (Ne.symm n2) _).set l _).setOther (a := ⟨L, 69, none⟩) n3 _)) rfl
    · intro l' t' hl' ht' hb'
      unfold upd2
      by_cases e : l' = l
      · subst e
        rw [upd_same, upd_same, testBit_setBit, r.bit l' t' hl' ht' hb']
        by_cases e2 : t' = t
        · subst e2; rw [upd_same]; simp
        · rw [upd_other _ _ _ e2, decide_eq_false (Ne.symm e2), Bool.or_false]
      · rw [upd_other _ _ _ e, upd_other _ _ _ e]; exact r.bit l' t' hl' ht' hb'
    · intro l' t' hl' hb'
      have e : l' ≠ l := fun e => hb (e ▸ hb')
      unfold upd2
      rw [upd_other _ _ _ e]; exact r.off l' t' hl' hb'
    · intro l'
      by_cases e : l' = l
      · subst e; rw [upd_same]; exact setBit_lt _ _ (r.lt _) (by omega)
      · rw [upd_other _ _ _ e]; exact r.lt _
    · intro l' hl'
      show (setBit s.busy l).testBit l' = true ↔ l' < s.n ∧ cnt N (upd2 hs l t true l') ≠ 0
      rw [testBit_setBit, Bool.or_eq_true, r.busy l' hl']
      unfold upd2
      by_cases e : l' = l
      · subst e
        rw [upd_same, hon]
        exact ⟨fun _ => ⟨hl, by omega⟩, fun _ => Or.inr (by simp)⟩
      · rw [upd_other _ _ _ e, decide_eq_false (Ne.symm e)]
        simp

theorem hold_off {w : World} {B L N : Nat} {s : Lv} {LB HB : Nat → Option Nat} {H : Nat → Nat} {hs : Nat → Nat → Bool} (r : RI w B L N s LB HB H hs) (l t : Nat) (hl : l < s.n) (ht : t < N) (hN : N ≤ 64) (hv : hs l t = true) :
    Calls Ybad.prog 17 #[.pointer (some ⟨L, 0, none⟩), .int .i64 l, .int .u64 t, .bool false] w fun e w' => e = .returned (.tuple #[]) ∧
      (∃ busy' H', RI w' B L N { s with busy := busy' } LB HB H' (upd2 hs l t false)) ∧ KeepR B w w' := by
  have hb : HB l ≠ none := fun h => by have := r.off l t hl h; rw [hv] at this; cases this
  obtain ⟨hbk, hhb⟩ := Option.ne_none_iff_exists'.1 hb
  obtain ⟨wr, wB⟩ := r.words l hbk hl hhb
  have n64 := r.n64
  have t0 : t / 64 = 0 := by omega
  have tm : t % 64 = t := by omega
  have c2 := r.hrow.cell hl
  rw [hhb] at c2
  have c3 := wr.cell (i := 0) (by omega)
  rw [← t0] at c3
  have hbit := r.bit l t hl ht hb
  have n1 : hbk ≠ L := (IsB.of_row wr).ne r.lv.isB (by decide)
  have n2 : hbk ≠ s.bf := (IsB.of_row wr).ne (IsB.of_row r.frow) (by decide)
  have n3 : s.bf ≠ L := (IsB.of_row r.frow).ne r.lv.isB (by decide)
  have hc64 := cnt_le (f := hs l) N
  have hoff := cnt_off hv N ht
  have c5 := r.frow.cell hl
  have hw1 : ((w.setCell ⟨hbk, 0, none⟩ (.int .u64 (clearAll (H l) (2 ^ t) : Nat))).rowIs hbk 22 1 (fun _ => .int .u64 (clearAll (H l) (2 ^ t) : Nat))) := (wr.set 0 _).congr (fun i hi => by rw [if_pos (by omega)])
  -- what both ends share
  have fin : ∀ (w' : World) (busy' : Nat), w'.rowIs hbk 22 1 (fun _ => .int .u64 (clearAll (H l) (2 ^ t) : Nat)) → w'.rowIs s.bf 3 s.n (fun j => .int .i64 (cnt N (upd hs l (upd (hs l) t false) j) : Nat)) → LvIs w' L { s with busy := busy' } →
      (∀ k, k ≠ hbk → k ≠ s.bf → k ≠ L → w'.heap[k]? = w.heap[k]?) → busy' < 18446744073709551616 → (∀ l', l' < 64 → (busy'.testBit l' = true ↔ l' < s.n ∧ cnt N (upd2 hs l t false l') ≠ 0)) →
      RI w' B L N { s with busy := busy' } LB HB (upd H l (clearAll (H l) (2 ^ t))) (upd2 hs l t false) := by
    intro w' busy' g1 g2 g3 keep g4 g5
    have rk : ∀ {k ty z : Nat} {f : Nat → Value}, w.rowIs k ty z f → ty ≠ 22 → ty ≠ 3 → ty ≠ 33 → w'.rowIs k ty z f :=
      fun h a1 a2 a3 => h.of_block (keep _ ((IsB.of_row h).ne (IsB.of_row wr) a1) ((IsB.of_row h).ne (IsB.of_row r.frow) a2) ((IsB.of_row h).ne r.lv.isB a3))
    refine { r with lv := g3, lrow := rk r.lrow (by decide) (by decide) (by decide), hrow := rk r.hrow (by decide) (by decide) (by decide), words := ?_, frow := g2, arow := rk r.arow (by decide) (by decide) (by decide), bit := ?_, off := ?_, lt := ?_, busy := g5, blt := g4 }
    · intro l' b' hl' hb'
      obtain ⟨wr', wB'⟩ := r.words l' b' hl' hb'
      refine ⟨?_, wB'⟩
      by_cases e : l' = l
      · subst e
        rw [hhb] at hb'
        cases hb'
        rw [upd_same]
        exact g1
      · rw [upd_other _ _ _ e]
        exact wr'.of_block (keep _ (fun h => e (r.inj l' l b' hl' hl hb' (h ▸ hhb))) ((IsB.of_row wr').ne (IsB.of_row r.frow) (by decide)) ((IsB.of_row wr').ne r.lv.isB (by decide)))
    · intro l' t' hl' ht' hb'
      unfold upd2
      by_cases e : l' = l
      · subst e
        rw [upd_same, upd_same, testBit_clearBit _ _ _ (r.lt _) (by omega), r.bit l' t' hl' ht' hb']
        by_cases e2 : t' = t
        · subst e2; rw [upd_same]; simp
        · rw [upd_other _ _ _ e2, decide_eq_false (Ne.symm e2)]; simp
      · rw [upd_other _ _ _ e, upd_other _ _ _ e]; exact r.bit l' t' hl' ht' hb'
    · intro l' t' hl' hb'
      have e : l' ≠ l := fun e => hb (e ▸ hb')
      unfold upd2
      rw [upd_other _ _ _ e]; exact r.off l' t' hl' hb'
    · intro l'
      by_cases e : l' = l
      · subst e; rw [upd_same]; exact clearAll_lt _ _ (r.lt _)
      · rw [upd_other _ _ _ e]; exact r.lt _
  have hnz : (bits .and .u64 ((H l : Nat) : Int) (IntKind.u64.wrap (2 ^ (t % 64))) != 0) = true := by rw [bit_nonzero _ _ (r.lt l) (by omega), tm, hbit, hv]
  by_cases h1 : cnt N (hs l) = 1
  · rw [h1] at c5
    refine (hold_last L s.bh s.bf hbk s.n 1 l t (H l) s.busy w hl n64 (by omega) (by omega) (by omega) r.lv.held c2 c3 (wr.frozen _) r.lv.full c5 (r.frow.frozen _) r.lv.busy (r.lv.frozen _) n1 n2 n3 hnz).mono ?_
    rintro e w' ⟨he, rfl⟩
    rw [tm, bit_clear _ _ (r.lt l) (by omega), bit_clear _ _ r.blt (by omega), t0]
    refine ⟨he, ⟨clearAll s.busy (2 ^ l), _, fin _ _ ?_ ?_ ?_ ?_ (clearAll_lt _ _ r.blt) ?_⟩, (((KeepR.refl B w).set (A := ⟨hbk, 0, none⟩) (IsB.of_row wr) (by decide) (by decide) (by decide) wB _).set (A := ⟨s.bf, l, none⟩) (IsB.of_row r.frow) (by decide) (by decide) (by decide) r.bbf _).set (A := ⟨L, 69, none⟩) r.lv.isB (by decide) (by decide) (by decide) r.bL _ |>.drew⟩
    · exact (hw1.setOther (a := ⟨s.bf, l, none⟩) n2 _).setOther (a := ⟨L, 69, none⟩) n1 _
    · exact fcongr ((((r.frow.setOther (a := ⟨hbk, 0, none⟩) (Ne.symm n2) _).set l _).setOther (a := ⟨L, 69, none⟩) n3 _)) (by omega)
    · exact ((r.lv.setOther (a := ⟨hbk, 0, none⟩) (Ne.symm n1) _).setOther (a := ⟨s.bf, l, none⟩) (Ne.symm n3) _).set 69 _ (set_busy s _)
    · exact fun k h1 h2 h3 => (heap_setCell_other _ _ _ _ h3).trans ((heap_setCell_other _ _ _ _ h2).trans (heap_setCell_other _ _ _ _ h1))
    · intro l' hl'
      rw [testBit_clearBit _ _ _ r.blt (by omega), Bool.and_eq_true, r.busy l' hl']
      unfold upd2
      by_cases e : l' = l
      · subst e
        rw [upd_same]
        have : cnt N (upd (hs l') t false) = 0 := by omega
        simp [this]
      · rw [upd_other _ _ _ e, decide_eq_false (Ne.symm e)]
        simp
  · refine (hold_drop L s.bh s.bf hbk s.n 1 l t (H l) s.busy _ w hl n64 (by omega) (by omega) (by omega) r.lv.held c2 c3 (wr.frozen _) r.lv.full c5 (r.frow.frozen _) r.lv.busy (r.lv.frozen _) n1 n2 n3 (by omega) (by omega) hnz).mono ?_
    rintro e w' ⟨he, rfl⟩
    rw [tm, bit_clear _ _ (r.lt l) (by omega), t0]
    refine ⟨he, ⟨s.busy, _, fin _ _ ?_ ?_ ?_ ?_ r.blt ?_⟩, ((KeepR.refl B w).set (A := ⟨hbk, 0, none⟩) (IsB.of_row wr) (by decide) (by decide) (by decide) wB _).set (A := ⟨s.bf, l, none⟩) (IsB.of_row r.frow) (by decide) (by decide) (by decide) r.bbf _⟩
    · exact hw1.setOther (a := ⟨s.bf, l, none⟩) n2 _
    · exact fcongr ((r.frow.setOther (a := ⟨hbk, 0, none⟩) (Ne.symm n2) _).set l _) (by omega)
    · exact (r.lv.setOther (a := ⟨hbk, 0, none⟩) (Ne.symm n1) _).setOther (a := ⟨s.bf, l, none⟩) (Ne.symm n3) _
    · exact fun k h1 h2 h3 => (heap_setCell_other _ _ _ _ h2).trans (heap_setCell_other _ _ _ _ h1)
    · intro l' hl'
      rw [r.busy l' hl']
      unfold upd2
      by_cases e : l' = l
      · subst e
        rw [upd_same]
        exact ⟨fun h => ⟨h.1, by omega⟩, fun h => ⟨h.1, by omega⟩⟩
      · rw [upd_other _ _ _ e]
end Go.Proofs.YbulkajrsDoor
