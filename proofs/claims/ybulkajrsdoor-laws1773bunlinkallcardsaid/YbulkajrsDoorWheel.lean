import Derived.Test.YbulkajrsDoorTally
import Derived.Test.YbulkajrsDoorWhere
namespace Go.Proofs.YbulkajrsDoor
open Go.RowKit
set_option linter.unusedVariables false

/-- What the callers keep: everything below B, and their own rows of entries. -/
structure KeepW (B : Nat) (w w' : World) : Prop where
  os : w'.os = w.os
  tape : w'.tape = w.tape
  output : w'.output = w.output
  size : w.heap.size ≤ w'.heap.size
  blk : ∀ k, k < B → w'.heap[k]? = w.heap[k]?
  typ : ∀ k z, IsB w k 45 z → w'.heap[k]? = w.heap[k]?
theorem KeepW.refl (B : Nat) (w : World) : KeepW B w w := ⟨rfl, rfl, rfl, Nat.le_refl _, fun _ _ => rfl, fun _ _ _ => rfl⟩
theorem KeepW.trans {B : Nat} {a b c : World} (h : KeepW B a b) (k : KeepW B b c) : KeepW B a c :=
  ⟨k.os.trans h.os, k.tape.trans h.tape, k.output.trans h.output, Nat.le_trans h.size k.size, fun i hi => (k.blk i hi).trans (h.blk i hi),
   fun i z hi => (k.typ i z (hi.of_block (h.typ i z hi))).trans (h.typ i z hi)⟩
theorem KeepR.keep {B : Nat} {w w' : World} (h : KeepR B w w') : KeepW B w w' := ⟨h.os, h.tape, h.output, h.size, h.blk, fun k z hk => h.typ k 45 z hk (Or.inr (Or.inr rfl))⟩
theorem Ptrs.keep {B : Nat} {w w' : World} (h : Ptrs B w w') : KeepW B w w' := ⟨h.os, h.tape, h.output, by rw [h.size]; exact Nat.le_refl _, h.low, fun k z hk => h.blocks k 45 z hk (by decide) (by decide)⟩
theorem KeepW.drewN {B : Nat} {a w : World} (h : KeepW B a w) (m : Nat) : KeepW B a (w.drewN m) := ⟨h.os, h.tape, h.output, h.size, h.blk, h.typ⟩
theorem KeepW.below {B : Nat} {w w' : World} (h : KeepW B w w') : Below B w w' := ⟨h.os, h.tape, h.output, h.size, h.blk⟩

structure LI (w : World) (N n B : Nat) (LB : Nat → Option Nat) (D : Nat → Nat) (E V : Nat → Prop) (Q : Nat → Nat → List Nat) : Prop where
  slot : ∀ l b, l < n → LB l = some b → SlotSt w b N ∧ B ≤ b
  linj : ∀ l l' b, l < n → l' < n → LB l = some b → LB l' = some b → l = l'
  ok : ∀ l b t, l < n → LB l = some b → t < N → SlotOk E (ptr w) b (t * 5) (Q l t)
  nil : ∀ l t, l < n → LB l = none → Q l t = []
  ent : ∀ e, E e → EntSt B w D e
  ev : ∀ e, V e → E e
  mem : ∀ l t e, e ∈ Q l t ↔ V e ∧ IsLev N (D e) l ∧ D e / N ^ l = t
  nd : ∀ l t, (Q l t).Nodup
  free : ∀ e, E e → ¬ V e → ptr w (nxA e) = none ∧ ptr w (pvA e) = none

theorem LI.of_blocks {w w' : World} {N n B : Nat} {LB : Nat → Option Nat} {D : Nat → Nat} {E V : Nat → Prop} {Q : Nat → Nat → List Nat} (i : LI w N n B LB D E V Q)
    (h : ∀ k t z, IsB w k t z → t = 72 ∨ t = 51 → w'.heap[k]? = w.heap[k]?) : LI w' N n B LB D E V Q := by
  have hE : ∀ e, E e → w'.heap[e]? = w.heap[e]? := fun e he => h _ _ _ (i.ent e he).isB (Or.inr rfl)
  have hS : ∀ l b, l < n → LB l = some b → w'.heap[b]? = w.heap[b]? := fun l b hl hb => h _ _ _ (i.slot l b hl hb).1.isB (Or.inl rfl)
  exact { i with
    slot := fun l b hl hb => ⟨(i.slot l b hl hb).1.of_block (hS l b hl hb), (i.slot l b hl hb).2⟩
    ok := fun l b t hl hb ht => (i.ok l b t hl hb ht).congr (fun j _ => ptr_block (A := ⟨b, _, none⟩) (hS l b hl hb)) (fun x hx => by
      have := hE x (i.ev x ((i.mem l t x).1 hx).1)
      exact ⟨ptr_block (A := nxA x) this, ptr_block (A := pvA x) this⟩)
    ent := fun e he => (i.ent e he).of_block (hE e he)
    free := fun e he hv => by
      have := hE e he
      rw [ptr_block (A := nxA e) this, ptr_block (A := pvA e) this]
      exact i.free e he hv }

def hsOf (Q : Nat → Nat → List Nat) (l t : Nat) : Bool := !(Q l t).isEmpty
def updQ (Q : Nat → Nat → List Nat) (l t : Nat) (x : List Nat) : Nat → Nat → List Nat := upd Q l (upd (Q l) t x)
theorem updQ_same (Q : Nat → Nat → List Nat) (l t : Nat) (x : List Nat) : updQ Q l t x l t = x := by simp [updQ, upd]
theorem updQ_other (Q : Nat → Nat → List Nat) (l t : Nat) (x : List Nat) {l' t' : Nat} (h : ¬ (l' = l ∧ t' = t)) : updQ Q l t x l' t' = Q l' t' := by
  unfold updQ upd
  by_cases e : l' = l
  · subst e
    simp; intro h2; exact absurd ⟨rfl, h2⟩ h
  · simp [e]
theorem hsOf_upd (Q : Nat → Nat → List Nat) (l t : Nat) (x : List Nat) : hsOf (updQ Q l t x) = upd2 (hsOf Q) l t (!x.isEmpty) := by
  funext l' t'
  unfold hsOf upd2 updQ upd
  by_cases e : l' = l
  · subst e
    by_cases e2 : t' = t
    · subst e2; simp
    · simp [e2]
  · simp [e]

/-- The frame of the other slots. -/
theorem LI.others {w w' : World} {N n B : Nat} {LB : Nat → Option Nat} {D : Nat → Nat} {E V : Nat → Prop} {Q : Nat → Nat → List Nat} (i : LI w N n B LB D E V Q) (hN : 2 ≤ N) {l t b e : Nat} {es : List Nat} (hl : l < n) (hb : LB l = some b) (ht : t < N)
    (hes : ∀ x, x ∈ es → x ∈ Q l t) (he : EntSt B w D e) (hel : ∀ l' t', e ∈ Q l' t' → l' = l ∧ t' = t) (fr : ∀ X, Away b (t * 5) e es X → ptr w' X = ptr w X) {l' t' b' : Nat} (hl' : l' < n) (hb' : LB l' = some b') (ht' : t' < N) (hne : ¬ (l' = l ∧ t' = t)) :
    SlotOk E (ptr w') b' (t' * 5) (Q l' t') := by
  have st := (i.slot l b hl hb).1
  have st' := (i.slot l' b' hl' hb').1
  refine (i.ok l' b' t' hl' hb' ht').congr (fun j hj => fr _ ⟨?_, ?_, ?_⟩) (fun x hx => ?_)
  · rintro ⟨h1, h2, h3⟩
    have h1' : b' = b := h1
    subst h1'
    have := i.linj l' l b' hl' hl hb' hb
    subst this
    simp at h2 h3
    exact hne ⟨rfl, by omega⟩
  · exact st'.isB.ne he.isB (by decide)
  · intro h
    exact st'.isB.ne (i.ent _ (i.ev _ ((i.mem l t _).1 (hes _ h)).1)).isB (by decide) rfl
  · have hx' := (i.mem l' t' x).1 hx
    have hxE := i.ent x (i.ev x hx'.1)
    have aw : ∀ j, Away b (t * 5) e es ⟨x, j, none⟩ := fun j => by
      refine ⟨fun h => hxE.isB.ne st.isB (by decide) h.1, fun h => ?_, fun h => ?_⟩
      · have h' : x = e := h
        subst h'
        exact hne (hel l' t' hx)
      · have hy := (i.mem l t x).1 (hes x h)
        have e1 := IsLev.unique hN hx'.2.1 hy.2.1
        subst e1
        exact hne ⟨rfl, by rw [← hx'.2.2, ← hy.2.2]⟩
    exact ⟨fr _ (aw 3), fr _ (aw 4)⟩

theorem LI.push {w w' : World} {N n B : Nat} {LB : Nat → Option Nat} {D : Nat → Nat} {E V : Nat → Prop} {Q : Nat → Nat → List Nat} (i : LI w N n B LB D E V Q) (hN : 2 ≤ N) {l t b e : Nat} (hl : l < n) (hb : LB l = some b) (ht : t < N)
    (he : E e) (hv : ¬ V e) (hlev : IsLev N (D e) l) (hdig : D e / N ^ l = t) (P : Ptrs B w w') {p s : List Nat} (hq : Q l t = p ++ s) (hs : SlotOk E (ptr w') b (t * 5) (p ++ e :: s))
    (fr : ∀ X, Away b (t * 5) e (Q l t) X → ptr w' X = ptr w X) : LI w' N n B LB D E (fun x => V x ∨ x = e) (updQ Q l t (p ++ e :: s)) := by
  have hnot : ∀ l' t', e ∉ Q l' t' := fun l' t' h => hv ((i.mem l' t' e).1 h).1
  have hmem : ∀ x, x ∈ p ++ e :: s ↔ x ∈ Q l t ∨ x = e := fun x => by
    rw [hq]; simp only [List.mem_append, List.mem_cons]
    constructor
    · rintro (h | h | h) <;> simp [h]
    · rintro ((h | h) | h) <;> simp [h]
  refine { slot := fun l' b' h1 h2 => ⟨(i.slot l' b' h1 h2).1.of_ptrs P, (i.slot l' b' h1 h2).2⟩, linj := i.linj, ok := ?_, nil := ?_, ent := fun x hx => (i.ent x hx).of_ptrs P, ev := ?_, mem := ?_, nd := ?_, free := ?_ }
  · intro l' b' t' hl' hb' ht'
    by_cases c : l' = l ∧ t' = t
    · obtain ⟨rfl, rfl⟩ := c
      rw [hb] at hb'; cases hb'
      rw [updQ_same]; exact hs
    · rw [updQ_other _ _ _ _ c]
      exact i.others hN hl hb ht (fun x hx => hx) (i.ent e he) (fun l' t' h => absurd h (hnot l' t')) fr hl' hb' ht' c
  · intro l' t' hl' hn'
    have c : ¬ (l' = l ∧ t' = t) := fun c => by rw [c.1, hb] at hn'; cases hn'
    rw [updQ_other _ _ _ _ c]; exact i.nil l' t' hl' hn'
  · rintro x (h | rfl)
    · exact i.ev x h
    · exact he
  · intro l' t' x
    by_cases c : l' = l ∧ t' = t
    · obtain ⟨rfl, rfl⟩ := c
      rw [updQ_same, hmem, i.mem]
      constructor
      · rintro (h | rfl)
        · exact ⟨Or.inl h.1, h.2⟩
        · exact ⟨Or.inr rfl, hlev, hdig⟩
      · rintro ⟨h | rfl, g⟩
        · exact Or.inl ⟨h, g⟩
        · exact Or.inr rfl
    · rw [updQ_other _ _ _ _ c, i.mem]
      constructor
      · rintro ⟨h, g⟩; exact ⟨Or.inl h, g⟩
      · rintro ⟨h | rfl, g⟩
        · exact ⟨h, g⟩
        · have e1 := IsLev.unique hN g.1 hlev
          subst e1
          exact absurd ⟨rfl, by rw [← g.2, ← hdig]⟩ c
  · intro l' t'
    by_cases c : l' = l ∧ t' = t
    · obtain ⟨rfl, rfl⟩ := c
      rw [updQ_same]
      have h1 := i.nd l' t'
      have h2 := hnot l' t'
      rw [hq] at h1 h2
      exact (List.perm_middle.nodup_iff).2 (List.nodup_cons.2 ⟨h2, h1⟩)
    · rw [updQ_other _ _ _ _ c]; exact i.nd l' t'
  · intro x hx hvx
    have hx1 : ¬ V x := fun h => hvx (Or.inl h)
    have aw : ∀ j, Away b (t * 5) e (Q l t) ⟨x, j, none⟩ := fun j => ⟨fun h => (i.ent x hx).isB.ne (i.slot l b hl hb).1.isB (by decide) h.1, fun h => hvx (Or.inr h), fun h => hx1 ((i.mem l t x).1 h).1⟩
    have g := i.free x hx hx1
    exact ⟨(fr _ (aw 3)).trans g.1, (fr _ (aw 4)).trans g.2⟩

theorem LI.leave {w w' : World} {N n B : Nat} {LB : Nat → Option Nat} {D : Nat → Nat} {E V : Nat → Prop} {Q : Nat → Nat → List Nat} (i : LI w N n B LB D E V Q) (hN : 2 ≤ N) {l t b e : Nat} (hl : l < n) (hb : LB l = some b) (ht : t < N)
    (P : Ptrs B w w') {p s : List Nat} (hq : Q l t = p ++ e :: s) (hs : SlotOk E (ptr w') b (t * 5) (p ++ s)) (h3 : ptr w' (nxA e) = none) (h4 : ptr w' (pvA e) = none)
    (fr : ∀ X, Away b (t * 5) e (p ++ s) X → ptr w' X = ptr w X) : LI w' N n B LB D E (fun x => V x ∧ x ≠ e) (updQ Q l t (p ++ s)) := by
  have hin : e ∈ Q l t := by rw [hq]; simp
  obtain ⟨hV, hlev, hdig⟩ := (i.mem l t e).1 hin
  have he := i.ev e hV
  have hel : ∀ l' t', e ∈ Q l' t' → l' = l ∧ t' = t := fun l' t' h => by
    have g := (i.mem l' t' e).1 h
    have e1 := IsLev.unique hN g.2.1 hlev
    subst e1
    exact ⟨rfl, by rw [← g.2.2, ← hdig]⟩
  have hnd := i.nd l t
  rw [hq] at hnd
  obtain ⟨hne, hnd'⟩ := List.nodup_cons.1 ((List.perm_middle.nodup_iff).1 hnd)
  have hsub : ∀ x, x ∈ p ++ s → x ∈ Q l t := fun x hx => by rw [hq]; simp at hx ⊢; rcases hx with h | h <;> simp [h]
  have hmem : ∀ x, x ∈ p ++ s ↔ x ∈ Q l t ∧ x ≠ e := fun x => by
    constructor
    · exact fun h => ⟨hsub x h, fun h2 => hne (h2 ▸ h)⟩
    · rintro ⟨h, h2⟩
      rw [hq] at h
      simp at h ⊢
      rcases h with h | h | h
      · exact Or.inl h
      · exact absurd h h2
      · exact Or.inr h
  refine { slot := fun l' b' h1 h2 => ⟨(i.slot l' b' h1 h2).1.of_ptrs P, (i.slot l' b' h1 h2).2⟩, linj := i.linj, ok := ?_, nil := ?_, ent := fun x hx => (i.ent x hx).of_ptrs P, ev := fun x hx => i.ev x hx.1, mem := ?_, nd := ?_, free := ?_ }
  · intro l' b' t' hl' hb' ht'
    by_cases c : l' = l ∧ t' = t
    · obtain ⟨rfl, rfl⟩ := c
      rw [hb] at hb'; cases hb'
      rw [updQ_same]; exact hs
    · rw [updQ_other _ _ _ _ c]
      exact i.others hN hl hb ht hsub (i.ent e he) hel fr hl' hb' ht' c
  · intro l' t' hl' hn'
    have c : ¬ (l' = l ∧ t' = t) := fun c => by rw [c.1, hb] at hn'; cases hn'
    rw [updQ_other _ _ _ _ c]; exact i.nil l' t' hl' hn'
  · intro l' t' x
    by_cases c : l' = l ∧ t' = t
    · obtain ⟨rfl, rfl⟩ := c
      rw [updQ_same, hmem, i.mem]
      exact ⟨fun h => ⟨⟨h.1.1, h.2⟩, h.1.2⟩, fun h => ⟨⟨h.1.1, h.2⟩, h.1.2⟩⟩
    · rw [updQ_other _ _ _ _ c, i.mem]
      constructor
      · rintro ⟨h, g⟩
        refine ⟨⟨h, ?_⟩, g⟩
        rintro rfl
        exact c (hel l' t' ((i.mem l' t' _).2 ⟨h, g⟩))
      · rintro ⟨h, g⟩; exact ⟨h.1, g⟩
  · intro l' t'
    by_cases c : l' = l ∧ t' = t
    · obtain ⟨rfl, rfl⟩ := c
      rw [updQ_same]; exact hnd'
    · rw [updQ_other _ _ _ _ c]; exact i.nd l' t'
  · intro x hx hvx
    by_cases c : x = e
    · subst c; exact ⟨h3, h4⟩
    · have hx1 : ¬ V x := fun h => hvx ⟨h, c⟩
      have aw : ∀ j, Away b (t * 5) e (p ++ s) ⟨x, j, none⟩ := fun j => ⟨fun h => (i.ent x hx).isB.ne (i.slot l b hl hb).1.isB (by decide) h.1, c, fun h => hx1 ((i.mem l t x).1 (hsub x h)).1⟩
      have g := i.free x hx hx1
      exact ⟨(fr _ (aw 3)).trans g.1, (fr _ (aw 4)).trans g.2⟩

/-- The wheel: V are the entries in it, c is its count. -/
def Wh (w : World) (B L N n : Nat) (c : Int) (D : Nat → Nat) (E V : Nat → Prop) : Prop :=
  ∃ s LB HB H Q, s.n = n ∧ s.count = c ∧ RI w B L N s LB HB H (hsOf Q) ∧ LI w N n B LB D E V Q
end Go.Proofs.YbulkajrsDoor
