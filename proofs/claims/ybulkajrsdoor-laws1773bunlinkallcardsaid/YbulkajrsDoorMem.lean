import Derived.Test.YbulkajrsDoorLinks
import Derived.Test.YbulkajrsDoorChain
namespace Go.Proofs.YbulkajrsDoor
open Go.RowKit
set_option linter.unusedVariables false

theorem cell_same {w : World} {a : Addr} {u : Value} (v : Value) (h : w.cell? a = some u) : (w.setCell a v).cell? a = some v := World.cell?_setCell_same _ _ _ h
theorem cell_other {w : World} {a b : Addr} (v : Value) (h : a ≠ b) : (w.setCell a v).cell? b = w.cell? b := World.cell?_setCell_other _ _ _ _ h

/-! ### Blocks and pointer cells -/
def IsB (w : World) (b : Nat) (t : TypeId) (z : Nat) : Prop := ∃ c : Array Value, w.heap[b]? = some (.cells c t (0, 0)) ∧ c.size = z
def ptr (w : World) (A : Addr) : Option Addr := match w.cell? A with | some (.pointer p) => p | _ => none
def Pt (w : World) (A : Addr) : Prop := ∃ p, w.cell? A = some (.pointer p)
def updA (M : Addr → Option Addr) (A : Addr) (p : Option Addr) : Addr → Option Addr := fun X => if X = A then p else M X

theorem Pt.get {w : World} {A : Addr} (h : Pt w A) : w.cell? A = some (.pointer (ptr w A)) := by
  obtain ⟨p, h⟩ := h
  rw [h]; simp [ptr, h]
theorem ptr_of {w : World} {A : Addr} {p : Option Addr} (h : w.cell? A = some (.pointer p)) : ptr w A = p := by simp [ptr, h]
theorem Pt.set {w : World} {B : Addr} (h : Pt w B) (A : Addr) (p : Option Addr) : Pt (w.setCell A (.pointer p)) B := by
  by_cases e : A = B
  · subst e
    obtain ⟨q, h⟩ := h
    exact ⟨p, cell_same _ h⟩
  · obtain ⟨q, h⟩ := h
    exact ⟨q, (cell_other _ e).trans h⟩
theorem ptr_set {w : World} {A : Addr} (h : Pt w A) (p : Option Addr) : ptr (w.setCell A (.pointer p)) = updA (ptr w) A p := by
  funext X
  unfold updA
  by_cases e : X = A
  · subst e
    obtain ⟨q, h⟩ := h
    rw [if_pos rfl]
    exact ptr_of (cell_same _ h)
  · rw [if_neg e]; unfold ptr; rw [cell_other _ (Ne.symm e)]
theorem ptr_drew (w : World) : ptr w.drew = ptr w := rfl
theorem IsB.frozen {w : World} {b t z : Nat} (h : IsB w b t z) (i : Nat) : w.frozen? ⟨b, i, none⟩ = false := by
  obtain ⟨c, h, _⟩ := h; exact frozen_of_row w b i c t h
theorem IsB.ok {w : World} {b t z : Nat} (h : IsB w b t z) : okB w b = true := by
  obtain ⟨c, h, _⟩ := h; exact okB_of h
theorem IsB.ty {w : World} {b t z t' z' : Nat} (h : IsB w b t z) (h' : IsB w b t' z') : t = t' := by
  obtain ⟨c, h, _⟩ := h; obtain ⟨c', h', _⟩ := h'
  rw [h] at h'
  simp at h'
  exact h'.2
theorem IsB.ne {w : World} {b b' t z t' z' : Nat} (h : IsB w b t z) (h' : IsB w b' t' z') (ht : t ≠ t') : b ≠ b' := fun e => ht (by subst e; exact h.ty h')
theorem IsB.of_block {w w' : World} {b t z : Nat} (h : IsB w b t z) (e : w'.heap[b]? = w.heap[b]?) : IsB w' b t z := by
  obtain ⟨c, h, g⟩ := h; exact ⟨c, e.trans h, g⟩
theorem IsB.lt {w : World} {b t z : Nat} (h : IsB w b t z) : b < w.heap.size := by
  obtain ⟨c, h, _⟩ := h
  exact (Array.getElem?_eq_some_iff.1 h).1
theorem IsB.of_row {w : World} {b t z : Nat} {f : Nat → Value} (h : w.rowIs b t z f) : IsB w b t z := by
  obtain ⟨c, h, g, _⟩ := h; exact ⟨c, h, g⟩
theorem setCell_isB_iff (w : World) (A : Addr) (v : Value) (hs : A.spot = none) (b t z : Nat) : IsB (w.setCell A v) b t z ↔ IsB w b t z := by
  obtain ⟨ab, ao, sp⟩ := A
  simp at hs; subst hs
  by_cases e : b = ab
  · subst e
    constructor
    · rintro ⟨c, h, g⟩
      cases hb : w.heap[b]? with
      | none => simp [World.setCell, Array.getElem?_modify, hb] at h
      | some o =>
        cases o with
        | cells c0 t0 fr =>
          simp [World.setCell, Array.getElem?_modify, hb] at h
          obtain ⟨rfl, rfl, rfl⟩ := h
          exact ⟨c0, hb, by simpa using g⟩
        | _ => simp [World.setCell, Array.getElem?_modify, hb] at h
    · rintro ⟨c, h, g⟩
      exact ⟨_, heap_setCell_same w b ao c t v h, by simpa using g⟩
  · constructor
    · exact fun h => h.of_block (heap_setCell_other _ _ _ _ e).symm
    · exact fun h => h.of_block (heap_setCell_other _ _ _ _ e)

/-- w' is w but for pointers in slots and entries. -/
structure Ptrs (B : Nat) (w w' : World) : Prop where
  os : w'.os = w.os
  tape : w'.tape = w.tape
  output : w'.output = w.output
  size : w'.heap.size = w.heap.size
  low : ∀ k, k < B → w'.heap[k]? = w.heap[k]?
  other : ∀ k, (∀ z, ¬ IsB w k 72 z) → (∀ z, ¬ IsB w k 51 z) → w'.heap[k]? = w.heap[k]?
  isb : ∀ b t z, IsB w' b t z ↔ IsB w b t z
  pt : ∀ A, Pt w A → Pt w' A
  cell : ∀ A v, w.cell? A = some v → (∀ p, v ≠ .pointer p) → w'.cell? A = some v

theorem Ptrs.refl (B : Nat) (w : World) : Ptrs B w w := ⟨rfl, rfl, rfl, rfl, fun _ _ => rfl, fun _ _ _ => rfl, fun _ _ _ => Iff.rfl, fun _ h => h, fun _ _ h _ => h⟩
theorem Ptrs.trans {B : Nat} {a b c : World} (h : Ptrs B a b) (k : Ptrs B b c) : Ptrs B a c :=
  ⟨k.os.trans h.os, k.tape.trans h.tape, k.output.trans h.output, k.size.trans h.size, fun i hi => (k.low i hi).trans (h.low i hi),
   fun i h1 h2 => (k.other i (fun z hz => h1 z ((h.isb _ _ _).1 hz)) (fun z hz => h2 z ((h.isb _ _ _).1 hz))).trans (h.other i h1 h2),
   fun b t z => (k.isb b t z).trans (h.isb b t z), fun A hA => k.pt A (h.pt A hA), fun A v h1 h2 => k.cell A v (h.cell A v h1 h2) h2⟩
theorem Ptrs.drew {B : Nat} {a w : World} (h : Ptrs B a w) : Ptrs B a w.drew := ⟨h.os, h.tape, h.output, h.size, h.low, h.other, h.isb, h.pt, h.cell⟩
theorem Ptrs.set1 {B : Nat} {w : World} {A : Addr} (hs : A.spot = none) (hA : Pt w A) (p : Option Addr) (hb : (∃ z, IsB w A.block 72 z ∨ IsB w A.block 51 z) ∧ B ≤ A.block) : Ptrs B w (w.setCell A (.pointer p)) :=
  ⟨rfl, rfl, rfl, by simp [World.setCell], fun k hk => heap_setCell_other _ _ _ _ (by have := hb.2; omega), fun k h1 h2 => heap_setCell_other _ _ _ _ (fun e => by
      obtain ⟨⟨z, hz | hz⟩, _⟩ := hb
      · exact h1 z (e ▸ hz)
      · exact h2 z (e ▸ hz)),
   fun b t z => setCell_isB_iff w A _ hs b t z, fun B hB => hB.set A p, fun B v h1 h2 => by
    by_cases e : A = B
    · subst e
      obtain ⟨q, hA⟩ := hA
      rw [hA] at h1; cases h1; exact absurd rfl (h2 q)
    · exact (cell_other _ e).trans h1⟩
theorem Ptrs.set {B : Nat} {a w : World} (h : Ptrs B a w) {b o : Nat} (hA : Pt a ⟨b, o, none⟩) (p : Option Addr) (hb : (∃ z, IsB a b 72 z ∨ IsB a b 51 z) ∧ B ≤ b) : Ptrs B a (w.setCell ⟨b, o, none⟩ (.pointer p)) :=
  h.trans (Ptrs.set1 rfl (h.pt _ hA) p (by
    obtain ⟨⟨z, hz⟩, hl⟩ := hb
    exact ⟨⟨z, by rw [h.isb, h.isb]; exact hz⟩, hl⟩))
/-- The same value again. -/
theorem Ptrs.again {B : Nat} {a w : World} (h : Ptrs B a w) {b o z : Nat} {v : Value} (hv : w.cell? ⟨b, o, none⟩ = some v) (hb : IsB a b 72 z) (hl : B ≤ b) : Ptrs B a (w.setCell ⟨b, o, none⟩ v) ∧ ptr (w.setCell ⟨b, o, none⟩ v) = ptr w := by
  have hc : ∀ X, (w.setCell ⟨b, o, none⟩ v).cell? X = w.cell? X := fun X => by
    by_cases e : (⟨b, o, none⟩ : Addr) = X
    · subst e; rw [cell_same _ hv, hv]
    · exact cell_other _ e
  refine ⟨h.trans ⟨rfl, rfl, rfl, by simp [World.setCell], fun k hk => heap_setCell_other _ _ _ _ (by show k ≠ b; omega), fun k h1 h2 => heap_setCell_other _ _ _ _ (fun e => ?_), fun b' t z => setCell_isB_iff w _ _ rfl b' t z, fun B hB => ?_, fun B v' h1 h2 => ?_⟩, ?_⟩
  · exact h1 z (by rw [h.isb]; exact e ▸ hb)
  · unfold Pt; rw [hc]; exact hB
  · rw [hc]; exact h1
  · funext X; unfold ptr; rw [hc]

/-- A slot's cells, whatever they hold. -/
structure SlotSt (w : World) (b N : Nat) : Prop where
  isB : IsB w b 72 (N * 5)
  pt : ∀ t j, t < N → j < 5 → j ≠ 3 → Pt w ⟨b, t * 5 + j, none⟩
  rnd : ∀ t, t < N → w.cell? ⟨b, t * 5 + 3, none⟩ = some (.int .u32 0)
structure EntSt (B : Nat) (w : World) (D : Nat → Nat) (e : Nat) : Prop where
  isB : IsB w e 51 8
  due : w.cell? ⟨e, 2, none⟩ = some (.int .u64 (D e))
  p3 : Pt w (nxA e)
  p4 : Pt w (pvA e)
  low : B ≤ e
theorem SlotSt.of_ptrs {w w' : World} {B b N : Nat} (h : SlotSt w b N) (g : Ptrs B w w') : SlotSt w' b N :=
  ⟨(g.isb _ _ _).2 h.isB, fun t j h1 h2 h3 => g.pt _ (h.pt t j h1 h2 h3), fun t h1 => g.cell _ _ (h.rnd t h1) (fun p e => by cases e)⟩
theorem EntSt.of_ptrs {w w' : World} {B : Nat} {D : Nat → Nat} {e : Nat} (h : EntSt B w D e) (g : Ptrs B w w') : EntSt B w' D e :=
  ⟨(g.isb _ _ _).2 h.isB, g.cell _ _ h.due (fun p e => by cases e), g.pt _ h.p3, g.pt _ h.p4, h.low⟩
theorem cell_block {w w' : World} {A : Addr} (e : w'.heap[A.block]? = w.heap[A.block]?) : w'.cell? A = w.cell? A := World.cell?_of_block e
theorem Pt.of_block {w w' : World} {A : Addr} (h : Pt w A) (e : w'.heap[A.block]? = w.heap[A.block]?) : Pt w' A := by
  obtain ⟨p, h⟩ := h; exact ⟨p, (cell_block e).trans h⟩
theorem ptr_block {w w' : World} {A : Addr} (e : w'.heap[A.block]? = w.heap[A.block]?) : ptr w' A = ptr w A := by
  unfold ptr; rw [cell_block e]
theorem SlotSt.of_block {w w' : World} {b N : Nat} (h : SlotSt w b N) (e : w'.heap[b]? = w.heap[b]?) : SlotSt w' b N :=
  ⟨h.isB.of_block e, fun t j h1 h2 h3 => (h.pt t j h1 h2 h3).of_block e, fun t h1 => (cell_block (A := ⟨b, _, none⟩) e).trans (h.rnd t h1)⟩
theorem EntSt.of_block {w w' : World} {B : Nat} {D : Nat → Nat} {x : Nat} (h : EntSt B w D x) (e : w'.heap[x]? = w.heap[x]?) : EntSt B w' D x :=
  ⟨h.isB.of_block e, (cell_block (A := ⟨x, 2, none⟩) e).trans h.due, h.p3.of_block e, h.p4.of_block e, h.low⟩

/-- A block that is outside a slot's chain. -/
def Away (b o e : Nat) (es : List Nat) (X : Addr) : Prop := ¬ (X.block = b ∧ o ≤ X.off ∧ X.off < o + 5) ∧ X.block ≠ e ∧ X.block ∉ es
end Go.Proofs.YbulkajrsDoor
