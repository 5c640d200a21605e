import Derived.Test.YbulkajrsDoorWheel
import Derived.Test.YbulkajrsDoorBuild
import Derived.BigQuiet
namespace Go.Proofs.YbulkajrsDoor
open Go.RowKit
set_option linter.unusedVariables false

/-! ### make([]slot, N) -/
def slot0 : Array Value := #[.pointer none, .pointer none, .pointer none, .int .u32 0, .pointer none]
theorem Ybad.info72 : (Ybad.prog.info? 72).map (fun i => (i.zero, i.size, i.bytes)) = some (some (.agg slot0), 5, 40) := by kernel_rfl
theorem Ybad.under73 : Ybad.prog.underlying 73 = some (.slice 72) := by kernel_rfl
theorem run_make_slots (N : Nat) (hN : N ≤ 64) (w : World) : (Instr.makeSlice 73 (.int .u64 (N : Int)) (.int .u64 (N : Int))).run Ybad.prog w = .ok (.slice (some ⟨w.heap.size, 0, none⟩) N N) (w.alloc (.cells (madeCells slot0 (N * 5)) 72)) := by
  obtain ⟨i, hi, hzz⟩ := Option.map_eq_some_iff.1 Ybad.info72
  simp only [Prod.mk.injEq] at hzz
  obtain ⟨hz, hs, hb⟩ := hzz
  have hr := run_make (P := Ybad.prog) w 73 72 i _ Ybad.under73 hi hz .u64 .u64 N N (by omega) (Int.le_refl _) (by rw [hb]; omega) (by omega)
  rw [hs] at hr
  exact hr
theorem made_slot (N t j : Nat) (ht : t < N) (hj : j < 5) : (madeCells slot0 (N * 5))[t * 5 + j]? = some (slot0[j]!) := by
  have h1 : t * 5 + j < N * 5 := by omega
  have h2 : (t * 5 + j) % 5 = j := by omega
  simp [madeCells, h1, show slot0.size = 5 from rfl, h2]

theorem RI.drewN {w : World} {B L N : Nat} {s : Lv} {LB HB : Nat → Option Nat} {H : Nat → Nat} {hs : Nat → Nat → Bool} (r : RI w B L N s LB HB H hs) (m : Nat) : RI (w.drewN m) B L N s LB HB H hs := r.of_blocks (fun _ _ _ _ _ _ => rfl)
theorem LI.drewN {w : World} {N n B : Nat} {LB : Nat → Option Nat} {D : Nat → Nat} {E V : Nat → Prop} {Q : Nat → Nat → List Nat} (i : LI w N n B LB D E V Q) (m : Nat) : LI (w.drewN m) N n B LB D E V Q := i.of_blocks (fun _ _ _ _ _ => rfl)

/-- A level gets its memory. -/
def laidW (W : World) (bl bh l N nw : Nat) : World :=
  (((W.setCell ⟨bl, l, none⟩ (.slice (some ⟨W.heap.size, 0, none⟩) N N)).setCell ⟨bh, l, none⟩ (.slice (some ⟨W.heap.size + 1, 0, none⟩) nw nw)).alloc (.cells (madeCells slot0 (N * 5)) 72)).alloc (.cells (madeCells #[.int .u64 0] nw) 22)

theorem laid_ok {W : World} {B L N n : Nat} {s : Lv} {LB HB : Nat → Option Nat} {H : Nat → Nat} {D : Nat → Nat} {E V : Nat → Prop} {Q : Nat → Nat → List Nat} (r : RI W B L N s LB HB H (hsOf Q)) (i : LI W N n B LB D E V Q) (hn : s.n = n)
    {l : Nat} (hl : l < n) (hb : LB l = none) :
    RI (laidW W s.bl s.bh l N 1) B L N s (upd LB l (some W.heap.size)) (upd HB l (some (W.heap.size + 1))) (upd H l 0) (hsOf Q) ∧ LI (laidW W s.bl s.bh l N 1) N n B (upd LB l (some W.heap.size)) D E V Q ∧ KeepW B W (laidW W s.bl s.bh l N 1) := by
  have hls : l < s.n := by omega
  have hHn : HB l = none := (r.same l hls).1 hb
  have sz : ((W.setCell ⟨s.bl, l, none⟩ (.slice (some ⟨W.heap.size, 0, none⟩) N N)).setCell ⟨s.bh, l, none⟩ (.slice (some ⟨W.heap.size + 1, 0, none⟩) 1 1)).heap.size = W.heap.size := by simp [World.setCell]
  have keep : ∀ k, k < W.heap.size → k ≠ s.bl → k ≠ s.bh → (laidW W s.bl s.bh l N 1).heap[k]? = W.heap[k]? := fun k h1 h2 h3 => by
    unfold laidW
    rw [Below.heap_alloc _ _ _ (by rw [World.size_alloc, sz]; omega), Below.heap_alloc _ _ _ (by rw [sz]; omega), heap_setCell_other _ _ _ _ h3, heap_setCell_other _ _ _ _ h2]
  have kt : ∀ k t z, IsB W k t z → t ≠ 73 → t ≠ 34 → (laidW W s.bl s.bh l N 1).heap[k]? = W.heap[k]? := fun k t z hk h1 h2 => keep k hk.lt (hk.ne (IsB.of_row r.lrow) h1) (hk.ne (IsB.of_row r.hrow) h2)
  have new1 : (laidW W s.bl s.bh l N 1).heap[W.heap.size]? = some (.cells (madeCells slot0 (N * 5)) 72 (0, 0)) := by
    unfold laidW
    rw [Below.heap_alloc _ _ _ (by rw [World.size_alloc, sz]; omega)]
    have h0 := heap_alloc_new ((W.setCell ⟨s.bl, l, none⟩ (.slice (some ⟨W.heap.size, 0, none⟩) N N)).setCell ⟨s.bh, l, none⟩ (.slice (some ⟨W.heap.size + 1, 0, none⟩) 1 1)) (.cells (madeCells slot0 (N * 5)) 72)
    rw [sz] at h0
    exact h0
  have new2 : (laidW W s.bl s.bh l N 1).rowIs (W.heap.size + 1) 22 1 (fun _ => .int .u64 (0 : Nat)) := by
    have := World.rowIs_made (((W.setCell ⟨s.bl, l, none⟩ (.slice (some ⟨W.heap.size, 0, none⟩) N N)).setCell ⟨s.bh, l, none⟩ (.slice (some ⟨W.heap.size + 1, 0, none⟩) 1 1)).alloc (.cells (madeCells slot0 (N * 5)) 72)) (.int .u64 0) 1 22
    rw [World.size_alloc, sz] at this
    exact this
  have nlh : s.bl ≠ s.bh := (IsB.of_row r.lrow).ne (IsB.of_row r.hrow) (by decide)
  have hlt : ∀ j b, j < s.n → HB j = some b → b < W.heap.size := fun j b h1 h2 => (r.words j b h1 h2).1.lt
  have llt : ∀ j b, j < n → LB j = some b → b < W.heap.size := fun j b h1 h2 => (i.slot j b h1 h2).1.isB.lt
  have hB0 : B ≤ W.heap.size := Nat.le_trans r.bL (Nat.le_of_lt r.lv.lt)
  refine ⟨?_, ?_, ?_⟩
  · refine { r with lv := r.lv.of_block (kt _ _ _ r.lv.isB (by decide) (by decide)), lrow := ?_, hrow := ?_, same := ?_, words := ?_, inj := ?_, frow := r.frow.of_block (kt _ _ _ (IsB.of_row r.frow) (by decide) (by decide)), arow := r.arow.of_block (kt _ _ _ (IsB.of_row r.arow) (by decide) (by decide)), bit := ?_, off := ?_, lt := ?_ }
    · refine (((((r.lrow.set l _).setOther (a := ⟨s.bh, l, none⟩) nlh _).alloc _).alloc _)).congr (fun j hj => ?_)
      by_cases e : j = l
      · subst e; rw [if_pos rfl, upd_same]; rfl
      · rw [if_neg e, upd_other _ _ _ e]
    · refine (((((r.hrow.setOther (a := ⟨s.bl, l, none⟩) (Ne.symm nlh) _).set l _).alloc _).alloc _)).congr (fun j hj => ?_)
      by_cases e : j = l
      · subst e; rw [if_pos rfl, upd_same]; rfl
      · rw [if_neg e, upd_other _ _ _ e]
    · intro j hj
      by_cases e : j = l
      · subst e; rw [upd_same, upd_same]; simp
      · rw [upd_other _ _ _ e, upd_other _ _ _ e]; exact r.same j hj
    · intro j b hj hb'
      by_cases e : j = l
      · subst e
        rw [upd_same] at hb'
        cases hb'
        rw [upd_same]
        exact ⟨new2, by omega⟩
      · rw [upd_other _ _ _ e] at hb' ⊢
        have := r.words j b hj hb'
        exact ⟨this.1.of_block (kt _ _ _ (IsB.of_row this.1) (by decide) (by decide)), this.2⟩
    · intro j j' b hj hj' h1 h2
      by_cases e : j = l
      · subst e
        by_cases e' : j' = j
        · exact e'.symm
        · rw [upd_same] at h1
          rw [upd_other _ _ _ e'] at h2
          cases h1
          have := hlt j' _ hj' h2
          omega
      · by_cases e' : j' = l
        · subst e'
          rw [upd_same] at h2
          rw [upd_other _ _ _ e] at h1
          cases h2
          have := hlt j _ hj h1
          omega
        · rw [upd_other _ _ _ e] at h1
          rw [upd_other _ _ _ e'] at h2
          exact r.inj j j' b hj hj' h1 h2
    · intro j t hj ht hb'
      by_cases e : j = l
      · subst e; rw [upd_same, r.off j t hj hHn]; simp
      · rw [upd_other _ _ _ e] at hb' ⊢; exact r.bit j t hj ht hb'
    · intro j t hj hb'
      by_cases e : j = l
      · subst e; rw [upd_same] at hb'; cases hb'
      · rw [upd_other _ _ _ e] at hb'; exact r.off j t hj hb'
    · intro j
      by_cases e : j = l
      · subst e; rw [upd_same]; omega
      · rw [upd_other _ _ _ e]; exact r.lt j
  · have i' : LI (laidW W s.bl s.bh l N 1) N n B LB D E V Q := i.of_blocks (fun k t z hk ht => kt k t z hk (by rcases ht with rfl | rfl <;> decide) (by rcases ht with rfl | rfl <;> decide))
    have cs : ∀ t j, t < N → j < 5 → (laidW W s.bl s.bh l N 1).cell? ⟨W.heap.size, t * 5 + j, none⟩ = some (slot0[j]!) := fun t j h1 h2 => by rw [cell_of_row _ _ _ _ _ _ new1]; exact made_slot N t j h1 h2
    have ps : ∀ t j, t < N → j < 5 → j ≠ 3 → (laidW W s.bl s.bh l N 1).cell? ⟨W.heap.size, t * 5 + j, none⟩ = some (.pointer none) := fun t j h1 h2 h3 => by
      rw [cs t j h1 h2]
      have : j = 0 ∨ j = 1 ∨ j = 2 ∨ j = 4 := by omega
      rcases this with rfl | rfl | rfl | rfl <;> rfl
    refine { i' with slot := ?_, linj := ?_, ok := ?_, nil := ?_ }
    · intro j b hj hb'
      by_cases e : j = l
      · subst e
        rw [upd_same] at hb'
        cases hb'
        exact ⟨⟨⟨_, new1, size_madeCells _ _⟩, fun t j' h1 h2 h3 => ⟨none, ps t j' h1 h2 h3⟩, fun t h1 => cs t 3 h1 (by omega)⟩, hB0⟩
      · rw [upd_other _ _ _ e] at hb'; exact i'.slot j b hj hb'
    · intro j j' b hj hj' h1 h2
      by_cases e : j = l
      · subst e
        by_cases e' : j' = j
        · exact e'.symm
        · rw [upd_same] at h1
          rw [upd_other _ _ _ e'] at h2
          cases h1
          have := llt j' _ hj' h2
          omega
      · by_cases e' : j' = l
        · subst e'
          rw [upd_same] at h2
          rw [upd_other _ _ _ e] at h1
          cases h2
          have := llt j _ hj h1
          omega
        · rw [upd_other _ _ _ e] at h1
          rw [upd_other _ _ _ e'] at h2
          exact i.linj j j' b hj hj' h1 h2
    · intro j b t hj hb' ht
      by_cases e : j = l
      · subst e
        rw [upd_same] at hb'
        cases hb'
        rw [i.nil j t hj hb]
        exact ⟨ptr_of (ps t 0 ht (by omega) (by omega)), Or.inl (ptr_of (ps t 4 ht (by omega) (by omega))), Or.inl ⟨rfl, ptr_of (ps t 1 ht (by omega) (by omega))⟩⟩
      · rw [upd_other _ _ _ e] at hb'; exact i'.ok j b t hj hb' ht
    · intro j t hj hb'
      by_cases e : j = l
      · subst e; exact i.nil j t hj hb
      · rw [upd_other _ _ _ e] at hb'; exact i.nil j t hj hb'
  · refine ⟨rfl, rfl, rfl, by unfold laidW; rw [World.size_alloc, World.size_alloc, sz]; omega, fun k hk => keep k (by omega) (by have := r.bbl; omega) (by have := r.bbh; omega), fun k z hk => kt k 45 z hk (by decide) (by decide)⟩

/-- 'fresh' is set. -/
theorem fresh_ok {W : World} {B N n : Nat} {LB : Nat → Option Nat} {D : Nat → Nat} {E V : Nat → Prop} {Q : Nat → Nat → List Nat} (i : LI W N n B LB D E V Q) (hN : 2 ≤ N) {l t b e : Nat} (hl : l < n) (hb : LB l = some b) (ht : t < N) (he : E e) (hv : ¬ V e) :
    LI ((W.setCell ⟨b, t * 5 + 3, none⟩ (.int .u32 0)).setCell ⟨b, t * 5 + 4, none⟩ (.pointer (some ⟨e, 0, none⟩))) N n B LB D E V Q ∧ Ptrs B W ((W.setCell ⟨b, t * 5 + 3, none⟩ (.int .u32 0)).setCell ⟨b, t * 5 + 4, none⟩ (.pointer (some ⟨e, 0, none⟩))) := by
  obtain ⟨st, hlow⟩ := i.slot l b hl hb
  obtain ⟨P1, E1⟩ := (Ptrs.refl B W).again (st.rnd t ht) st.isB hlow
  have p4 := st.pt t 4 ht (by omega) (by omega)
  have P2 := P1.set p4 (some ⟨e, 0, none⟩) ⟨⟨_, Or.inl st.isB⟩, hlow⟩
  have E2 := ptr_set_of E1 (P1.pt _ p4) (some ⟨e, 0, none⟩)
  refine ⟨?_, P2⟩
  have fr : ∀ X, X ≠ ⟨b, t * 5 + 4, none⟩ → ptr ((W.setCell ⟨b, t * 5 + 3, none⟩ (.int .u32 0)).setCell ⟨b, t * 5 + 4, none⟩ (.pointer (some ⟨e, 0, none⟩))) X = ptr W X := fun X h => by rw [E2, updA_ne h]
  have frA : ∀ X, Away b (t * 5) e [] X → ptr ((W.setCell ⟨b, t * 5 + 3, none⟩ (.int .u32 0)).setCell ⟨b, t * 5 + 4, none⟩ (.pointer (some ⟨e, 0, none⟩))) X = ptr W X := fun X a => fr X (fun e' => a.1 (by rw [e']; simp))
  have frE : ∀ x, E x → ∀ j, (⟨x, j, none⟩ : Addr) ≠ ⟨b, t * 5 + 4, none⟩ := fun x hx j e' => (i.ent x hx).isB.ne st.isB (by decide) (congrArg Addr.block e')
  refine { i with slot := fun l' b' h1 h2 => ⟨(i.slot l' b' h1 h2).1.of_ptrs P2, (i.slot l' b' h1 h2).2⟩, ok := ?_, ent := fun x hx => (i.ent x hx).of_ptrs P2, free := ?_ }
  · intro l' b' t' hl' hb' ht'
    by_cases c : l' = l ∧ t' = t
    · obtain ⟨rfl, rfl⟩ := c
      rw [hb] at hb'; cases hb'
      obtain ⟨o1, o2, o3⟩ := i.ok l' b t' hl hb ht
      refine ⟨o1.congr _ _ (fun X hX => fr X ?_), ?_, ?_⟩
      · rcases hX with rfl | ⟨x, hx, rfl | rfl⟩
        · simp
        · exact frE x (i.ev x ((i.mem _ _ x).1 hx).1) 3
        · exact frE x (i.ev x ((i.mem _ _ x).1 hx).1) 4
      · rw [E2, updA_eq]; exact Or.inr ⟨e, he, rfl⟩
      · rw [fr _ (by simp), fr ⟨b, t' * 5 + 2, none⟩ (by simp)]; exact o3
    · exact i.others hN hl hb ht (fun x hx => by simp at hx) (i.ent e he) (fun l' t' h => absurd ((i.mem l' t' e).1 h).1 hv) frA hl' hb' ht' c
  · intro x hx hvx
    have g := i.free x hx hvx
    exact ⟨(fr _ (frE x hx 3)).trans g.1, (fr _ (frE x hx 4)).trans g.2⟩

def PutPS (w : World) (B L N n l t e : Nat) (s : Lv) (D : Nat → Nat) (E V : Nat → Prop) (Q : Nat → Nat → List Nat) (X : World) : Prop :=
  KeepW B w X ∧ ∃ LB HB H Q', RI X B L N s LB HB H (hsOf Q) ∧ LI X N n B LB D E (fun x => V x ∨ x = e) Q' ∧ hsOf Q' = upd2 (hsOf Q) l t true ∧ HB l ≠ none

set_option maxHeartbeats 8000000 in
set_option maxRecDepth 100000 in
theorem put_ok {w : World} {B L N n : Nat} {c : Int} {D : Nat → Nat} {E V : Nat → Prop} (h : Wh w B L N n c D E V) (hg : GoodN N) (hN : N ≤ 64) {e l : Nat} (he : E e) (hv : ¬ V e) (hd1 : 1 ≤ D e) (hd : D e < 18446744073709551616) (hlev : IsLev N (D e) l) (hl : l < n) :
    Calls Ybad.prog 23 #[.pointer (some ⟨L, 0, none⟩), .pointer (some ⟨e, 0, none⟩)] w fun x w' => x = .returned (.tuple #[]) ∧ Wh w' B L N n c D E (fun x => V x ∨ x = e) ∧ KeepW B w w' := by
  obtain ⟨s, LB, HB, H, Q, hn, hc, r, i⟩ := h
  obtain ⟨hN2, _⟩ := hg.bounds
  have n64 : n ≤ 64 := by have := r.n64; omega
  have CS : Hid (Calls Ybad.prog 24 #[.pointer (some ⟨L, 0, none⟩), .int .u64 (D e)] w fun x w' => x = .returned (.tuple #[.int .i64 l, .int .u64 ((D e / N ^ l : Nat) : Int), .int .u64 ((D e / N ^ l * N ^ l : Nat) : Int)]) ∧ ∃ m, w' = w.drewN m) :=
    slot_any L N (D e) l s w hg hd1 hd hlev r.lv r.e0 r.e1 r.e2 r.e3
  obtain ⟨t, hdig⟩ : ∃ t, D e / N ^ l = t := ⟨_, rfl⟩
  obtain ⟨st, hst0⟩ : ∃ st, t * N ^ l = st := ⟨_, rfl⟩
  have ht : t < N := by rw [← hdig]; exact (hlev.digit hN2).2
  rw [hdig, hst0] at CS
  have PUSH : Hid (∀ (X : World) (LB HB : Nat → Option Nat) (H : Nat → Nat) (b : Nat), RI X B L N s LB HB H (hsOf Q) → LI X N n B LB D E V Q → LB l = some b → KeepW B w X → ∀ at0, Calls Ybad.prog 29 #[.pointer (some ⟨b, t * 5, none⟩), .pointer (some ⟨e, 0, none⟩), .bool at0] X (fun x X' => x = .returned (.tuple #[]) ∧ Hid (PutPS w B L N n l t e s D E V Q X'))) := by
    intro X LB HB H b r i hb k at0
    obtain ⟨st, low⟩ := i.slot l b hl hb
    refine (push_ok B E b (t * 5) e _ at0 (Q l t) D X st.isB low (st.pt t 0 ht (by omega) (by omega)) (st.pt t 1 ht (by omega) (by omega)) (st.pt t 2 ht (by omega) (by omega)) (i.ent e he)
      (fun x hx => i.ent x (i.ev x ((i.mem l t x).1 hx).1)) (i.nd l t) (fun h => hv ((i.mem l t e).1 h).1) (i.ok l b t hl hb ht)).mono ?_
    rintro x X' ⟨hx, P, p, q, hq, hs, fr⟩
    refine ⟨hx, k.trans P.keep, LB, HB, H, _, r.of_blocks P.blocks, i.push hN2 hl hb ht he hv hlev hdig P hq hs fr, ?_, ?_⟩
    · rw [hsOf_upd]; congr 1; simp
    · exact fun h => by rw [(r.same l (by omega)).2 h] at hb; cases hb
  have PUSH2 : Hid (∀ (X : World) (LB HB : Nat → Option Nat) (H : Nat → Nat) (b m : Nat), RI X B L N s LB HB H (hsOf Q) → LI X N n B LB D E V Q → LB l = some b → KeepW B w X → Calls Ybad.prog 29 #[.pointer (some ⟨b, t * 5, none⟩), .pointer (some ⟨e, 0, none⟩), .bool false]
      (((X.setCell ⟨b, t * 5 + 3, none⟩ (.int .u32 0)).setCell ⟨b, t * 5 + 4, none⟩ (.pointer (some ⟨e, 0, none⟩))).drewN m) (fun x X' => x = .returned (.tuple #[]) ∧ Hid (PutPS w B L N n l t e s D E V Q X'))) := by
    intro X LB HB H b m r i hb k
    obtain ⟨i2, P⟩ := fresh_ok i hN2 hl hb ht he hv
    exact PUSH.out _ LB HB H b ((r.of_blocks P.blocks).drewN m) (i2.drewN m) hb ((k.trans P.keep).drewN m) false
  have HOLD : Hid (∀ X', Hid (PutPS w B L N n l t e s D E V Q X') → Calls Ybad.prog 17 #[.pointer (some ⟨L, 0, none⟩), .int .i64 l, .int .u64 t, .bool true] X' (fun x X'' => x = .returned (.tuple #[]) ∧ Hid (Wh X'' B L N n c D E (fun x => V x ∨ x = e) ∧ KeepW B w X''))) := by
    rintro X' ⟨k, LB, HB, H, Q', r, i, hq, hb⟩
    refine (hold_on r l t (by omega) ht hN hb).mono ?_
    rintro x X'' ⟨hx, ⟨busy', H', r'⟩, k'⟩
    refine ⟨hx, ⟨{ s with busy := busy' }, LB, HB, H', Q', hn, hc, by rw [hq]; exact r', i.of_blocks (fun k t z hk ht => k'.typ k t z hk (by rcases ht with h | h <;> simp [h]))⟩, k.trans k'.keep⟩
  have C2 := (i.ent e he).due
  have hms := fun w => run_make_slots N hN w
  obtain ⟨nw, hnw⟩ : ∃ nw, nw = (N + 63) / 64 := ⟨_, rfl⟩
  have HNW : Hid (nw = 1) := by show nw = 1; omega
  have hmk := run_make_row' (P := Ybad.prog) 34 22 (.int .u64 0) 8 Ybad.underlying34 Ybad.info22 rfl .u64 .u64 nw (by omega) (by omega)
  have hnwi : ((N : Int) + 63) / 64 = nw := by omega
  have heql := fun (w : World) (a : Option Addr) (n c : Nat) => Lib.run_eql_slice_nil (P := Ybad.prog) w 73 72 a n c 0 0 Ybad.under73
  have R0 : Hid (RI w B L N s LB HB H (hsOf Q)) := r
  have I0 : Hid (LI w N n B LB D E V Q) := i
  have HLEV : Hid (IsLev N (D e) l) := hlev
  have HDIG : Hid (D e / N ^ l = t ∧ t * N ^ l = st) := ⟨hdig, hst0⟩
  clear hnw r i hlev hdig hst0
  go_enter Ybad.func23, Ybad.ntmps23
  go_wp2_with fail
  refine CS.out.mono ?_
  rintro x W ⟨rfl, m, hW⟩
  have rW : Hid (RI W B L N s LB HB H (hsOf Q)) := by rw [hW]; exact R0.out.drewN m
  have iW : Hid (LI W N n B LB D E V Q) := by rw [hW]; exact I0.out.drewN m
  have kW : Hid (KeepW B w W) := by rw [hW]; exact (KeepW.refl B w).drewN m
  clear hW C2
  cases hbl : LB l with
  | none =>
    have c66 : W.cell? ⟨L, 66, none⟩ = some (.slice (some ⟨s.bl, 0, none⟩) n n) := by rw [← hn]; exact rW.out.lv.level
    have c67 : W.cell? ⟨L, 67, none⟩ = some (.slice (some ⟨s.bh, 0, none⟩) n n) := by rw [← hn]; exact rW.out.lv.held
    have c0 : W.cell? ⟨L, 0, none⟩ = some (.int .u64 N) := by have := rW.out.lv.slots; rw [rW.out.e0] at this; exact this
    have cl : W.cell? ⟨s.bl, l, none⟩ = some (.slice none 0 0) := by have := rW.out.lrow.cell (i := l) (by omega); rw [hbl] at this; exact this
    have ch : W.cell? ⟨s.bh, l, none⟩ = some (.slice none 0 0) := by have := rW.out.hrow.cell (i := l) (by omega); rw [(rW.out.same l (by omega)).1 hbl] at this; exact this
    have fl := rW.out.lrow.frozen l
    have fh := rW.out.hrow.frozen l
    have ll1 := rW.out.lv.lt
    have ll2 := rW.out.lrow.lt
    have ll3 := rW.out.hrow.lt
    have n1 : ¬ s.bl = L := (IsB.of_row rW.out.lrow).ne rW.out.lv.isB (by decide)
    have n2 : ¬ s.bh = L := (IsB.of_row rW.out.hrow).ne rW.out.lv.isB (by decide)
    have n3 : ¬ s.bh = s.bl := (IsB.of_row rW.out.hrow).ne (IsB.of_row rW.out.lrow) (by decide)
    have LOK : Hid (RI (laidW W s.bl s.bh l N nw) B L N s (upd LB l (some W.heap.size)) (upd HB l (some (W.heap.size + 1))) (upd H l 0) (hsOf Q) ∧ LI (laidW W s.bl s.bh l N nw) N n B (upd LB l (some W.heap.size)) D E V Q ∧ KeepW B W (laidW W s.bl s.bh l N nw)) := by
      rw [HNW.out]; exact laid_ok rW.out iW.out hn hl hbl
    clear hbl
    go_wp2_with fail
    go_region
    go_wp2_with fail
    go_region
    generalize hX : ((((W.setCell ⟨s.bl, l, none⟩ (.slice (some ⟨W.heap.size, 0, none⟩) N N)).setCell ⟨s.bh, l, none⟩ (.slice (some ⟨W.heap.size + 1, 0, none⟩) nw nw)).alloc (.cells (madeCells slot0 (N * 5)) 72)).alloc (.cells (madeCells #[.int .u64 0] nw) 22)).drew.drew = X
    have rX : Hid (RI X B L N s (upd LB l (some W.heap.size)) (upd HB l (some (W.heap.size + 1))) (upd H l 0) (hsOf Q)) := by rw [← hX]; exact LOK.out.1.of_blocks (fun _ _ _ _ _ _ => rfl)
    have iX : Hid (LI X N n B (upd LB l (some W.heap.size)) D E V Q) := by rw [← hX]; exact LOK.out.2.1.of_blocks (fun _ _ _ _ _ => rfl)
    have kX : Hid (KeepW B w X) := by rw [← hX]; exact (kW.out.trans LOK.out.2.2).drewN 2
    have bX : Hid (upd LB l (some W.heap.size) l = some W.heap.size) := upd_same _ _ _
    clear hX LOK c66 c67 c0 cl ch fl fh ll1 ll2 ll3 n1 n2 n3 rW iW kW

    -- the slot is there
    have X66 : X.cell? ⟨L, 66, none⟩ = some (.slice (some ⟨s.bl, 0, none⟩) n n) := by rw [← hn]; exact rX.out.lv.level
    have X2 : X.cell? ⟨e, 2, none⟩ = some (.int .u64 (D e)) := (iX.out.ent e he).due
    have X72 : X.cell? ⟨L, 72, none⟩ = some (.int .u32 0) := by have := rX.out.lv.round; rw [rX.out.e4] at this; exact this
    have Xl : X.cell? ⟨s.bl, l, none⟩ = some (.slice (some ⟨W.heap.size, 0, none⟩) N N) := by have := rX.out.lrow.cell (i := l) (by omega); rw [bX.out] at this; exact this
    obtain ⟨stX, lowX⟩ := iX.out.slot l _ hl bX.out
    have X3 := stX.rnd t ht
    have X4 := (stX.pt t 4 ht (by omega) (by omega)).get
    have F3 := stX.isB.frozen (t * 5 + 3)
    have F4 := stX.isB.frozen (t * 5 + 4)
    clear stX lowX
    go_wp2_with fail
    by_cases hst : D e = st
    · have hst' : (((D e : Nat) : Int) == (st : Int)) = true := beq_iff_eq.2 (by omega)
      clear hst
      go_quiet (fail)
      go_wp2_with fail
      refine (PUSH.out _ _ _ _ _ (rX.out.drewN _) (iX.out.drewN _) bX.out (kX.out.drewN _) true).mono ?_
      rintro x X' ⟨rfl, hPS⟩
      go_wp2_with fail
      refine (HOLD.out _ hPS).mono ?_
      rintro x X'' ⟨rfl, hF⟩
      go_wp2
      go_end0
      exact ⟨rfl, hF.out⟩
    · have hst' : (((D e : Nat) : Int) == (st : Int)) = false := beq_eq_false_iff_ne.2 (by omega)
      clear hst
      cases hfr : ptr X ⟨W.heap.size, t * 5 + 4, none⟩ with
      | none =>
        rw [hfr] at X4
        clear hfr
        go_quiet (fail)
        go_wp2_with fail
        refine (PUSH2.out X _ _ _ _ _ rX.out iX.out bX.out kX.out).mono ?_
        rintro x X' ⟨rfl, hPS⟩
        go_wp2_with fail
        refine (HOLD.out _ hPS).mono ?_
        rintro x X'' ⟨rfl, hF⟩
        go_wp2
        go_end0
        exact ⟨rfl, hF.out⟩
      | some fa =>
        rw [hfr] at X4
        clear hfr
        go_quiet (fail)
        go_wp2_with fail
        refine (PUSH.out _ _ _ _ _ (rX.out.drewN _) (iX.out.drewN _) bX.out (kX.out.drewN _) false).mono ?_
        rintro x X' ⟨rfl, hPS⟩
        go_wp2_with fail
        refine (HOLD.out _ hPS).mono ?_
        rintro x X'' ⟨rfl, hF⟩
        go_wp2
        go_end0
        exact ⟨rfl, hF.out⟩
  | some b =>
    have rX := rW
    have iX := iW
    have kX := kW
    have bX : Hid (LB l = some b) := hbl
    clear hbl rW iW kW

    -- the slot is there
    have X66 : W.cell? ⟨L, 66, none⟩ = some (.slice (some ⟨s.bl, 0, none⟩) n n) := by rw [← hn]; exact rX.out.lv.level
    have X2 : W.cell? ⟨e, 2, none⟩ = some (.int .u64 (D e)) := (iX.out.ent e he).due
    have X72 : W.cell? ⟨L, 72, none⟩ = some (.int .u32 0) := by have := rX.out.lv.round; rw [rX.out.e4] at this; exact this
    have Xl : W.cell? ⟨s.bl, l, none⟩ = some (.slice (some ⟨b, 0, none⟩) N N) := by have := rX.out.lrow.cell (i := l) (by omega); rw [bX.out] at this; exact this
    obtain ⟨stX, lowX⟩ := iX.out.slot l _ hl bX.out
    have X3 := stX.rnd t ht
    have X4 := (stX.pt t 4 ht (by omega) (by omega)).get
    have F3 := stX.isB.frozen (t * 5 + 3)
    have F4 := stX.isB.frozen (t * 5 + 4)
    clear stX lowX
    go_wp2_with fail
    by_cases hst : D e = st
    · have hst' : (((D e : Nat) : Int) == (st : Int)) = true := beq_iff_eq.2 (by omega)
      clear hst
      go_quiet (fail)
      go_wp2_with fail
      refine (PUSH.out _ _ _ _ _ (rX.out.drewN _) (iX.out.drewN _) bX.out (kX.out.drewN _) true).mono ?_
      rintro x X' ⟨rfl, hPS⟩
      go_wp2_with fail
      refine (HOLD.out _ hPS).mono ?_
      rintro x X'' ⟨rfl, hF⟩
      go_wp2
      go_end0
      exact ⟨rfl, hF.out⟩
    · have hst' : (((D e : Nat) : Int) == (st : Int)) = false := beq_eq_false_iff_ne.2 (by omega)
      clear hst
      cases hfr : ptr W ⟨b, t * 5 + 4, none⟩ with
      | none =>
        rw [hfr] at X4
        clear hfr
        go_quiet (fail)
        go_wp2_with fail
        refine (PUSH2.out W _ _ _ _ _ rX.out iX.out bX.out kX.out).mono ?_
        rintro x X' ⟨rfl, hPS⟩
        go_wp2_with fail
        refine (HOLD.out _ hPS).mono ?_
        rintro x X'' ⟨rfl, hF⟩
        go_wp2
        go_end0
        exact ⟨rfl, hF.out⟩
      | some fa =>
        rw [hfr] at X4
        clear hfr
        go_quiet (fail)
        go_wp2_with fail
        refine (PUSH.out _ _ _ _ _ (rX.out.drewN _) (iX.out.drewN _) bX.out (kX.out.drewN _) false).mono ?_
        rintro x X' ⟨rfl, hPS⟩
        go_wp2_with fail
        refine (HOLD.out _ hPS).mono ?_
        rintro x X'' ⟨rfl, hF⟩
        go_wp2
        go_end0
        exact ⟨rfl, hF.out⟩
end Go.Proofs.YbulkajrsDoor
