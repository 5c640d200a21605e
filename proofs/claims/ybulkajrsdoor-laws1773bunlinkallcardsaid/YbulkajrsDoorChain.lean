import Derived.Test.YbulkajrsDoorBase
namespace Go.Proofs.YbulkajrsDoor
open Go.RowKit
set_option linter.unusedVariables false

/-! ### A chain of entries, in plain words: M is what the pointer cells hold -/
def nxA (e : Nat) : Addr := ⟨e, 3, none⟩
def pvA (e : Nat) : Addr := ⟨e, 4, none⟩
def enA (e : Nat) : Addr := ⟨e, 0, none⟩
theorem nxA_inj {x y : Nat} (h : nxA x = nxA y) : x = y := by simpa [nxA] using h
theorem pvA_inj {x y : Nat} (h : pvA x = pvA y) : x = y := by simpa [pvA] using h
theorem enA_inj {x y : Nat} (h : enA x = enA y) : x = y := by simpa [enA] using h
theorem nx_pv {x y : Nat} : nxA x ≠ pvA y := by simp [nxA, pvA]
theorem pv_nx {x y : Nat} : pvA x ≠ nxA y := by simp [nxA, pvA]

def Seg (M : Addr → Option Addr) : Addr → List Nat → Prop
  | A, [] => M A = none
  | A, e :: xs => M A = some (enA e) ∧ M (pvA e) = some A ∧ Seg M (nxA e) xs
/-- The chain's last link. -/
def ll : Addr → List Nat → Addr
  | A, [] => A
  | _, e :: xs => ll (nxA e) xs
def hdP : List Nat → Option Addr
  | [] => none
  | e :: _ => some (enA e)

theorem ll_app (A : Addr) (e : Nat) (s : List Nat) : ∀ (p : List Nat) (A : Addr), ll A (p ++ e :: s) = ll (nxA e) s
  | [], _ => rfl
  | x :: p, _ => ll_app A e s p _
theorem ll_mem (x : Nat) : ∀ (p : List Nat), ∃ y, y ∈ x :: p ∧ ll (nxA x) p = nxA y
  | [] => ⟨x, by simp, rfl⟩
  | z :: p => by
    obtain ⟨y, h, g⟩ := ll_mem z p
    exact ⟨y, List.mem_cons_of_mem _ h, g⟩
theorem ll_cases (A : Addr) : ∀ (p : List Nat), ll A p = A ∨ ∃ y, y ∈ p ∧ ll A p = nxA y
  | [] => Or.inl rfl
  | z :: p => Or.inr (ll_mem z p)
theorem Seg.at {M : Addr → Option Addr} {s : List Nat} : ∀ (p : List Nat) (A : Addr), Seg M A (p ++ s) → M (ll A p) = hdP s
  | [], A, h => by cases s with | nil => exact h | cons f s => exact h.1
  | x :: p, A, h => Seg.at p _ h.2.2
theorem Seg.pv {M : Addr → Option Addr} {s : List Nat} {e : Nat} : ∀ (p : List Nat) (A : Addr), Seg M A (p ++ e :: s) → M (pvA e) = some (ll A p)
  | [], A, h => h.2.1
  | x :: p, A, h => Seg.pv p _ h.2.2
theorem Seg.nx {M : Addr → Option Addr} {s : List Nat} {e : Nat} : ∀ (p : List Nat) (A : Addr), Seg M A (p ++ e :: s) → M (nxA e) = hdP s
  | [], A, h => Seg.at (s := s) [] _ h.2.2
  | x :: p, A, h => Seg.nx p _ h.2.2
theorem Seg.congr {M M' : Addr → Option Addr} : ∀ (xs : List Nat) (A : Addr), (∀ X, X = A ∨ (∃ x, x ∈ xs ∧ (X = nxA x ∨ X = pvA x)) → M' X = M X) → Seg M A xs → Seg M' A xs
  | [], A, g, h => (g A (Or.inl rfl)).trans h
  | e :: xs, A, g, h => ⟨(g A (Or.inl rfl)).trans h.1, (g _ (Or.inr ⟨e, by simp, Or.inr rfl⟩)).trans h.2.1,
      Seg.congr xs _ (fun X hX => g X (Or.inr (by
        rcases hX with rfl | ⟨x, hx, hX⟩
        · exact ⟨e, by simp, Or.inl rfl⟩
        · exact ⟨x, List.mem_cons_of_mem _ hx, hX⟩))) h.2.2⟩

theorem Seg.insert {M M' : Addr → Option Addr} {e : Nat} {s : List Nat} : ∀ (p : List Nat) (A : Addr), Seg M A (p ++ s) → (p ++ s).Nodup → (∀ y, y ∈ p ++ s → A ≠ nxA y ∧ A ≠ pvA y) →
    M' (ll A p) = some (enA e) → M' (pvA e) = some (ll A p) → M' (nxA e) = hdP s → (∀ f s', s = f :: s' → M' (pvA f) = some (nxA e)) →
    (∀ X, (X = A ∨ ∃ x, x ∈ p ++ s ∧ (X = nxA x ∨ X = pvA x)) → X ≠ ll A p → (∀ f s', s = f :: s' → X ≠ pvA f) → M' X = M X) → Seg M' A (p ++ e :: s)
  | [], A, h, hn, hA, h1, h2, h3, h4, h5 => by
    refine ⟨h1, h2, ?_⟩
    cases s with
    | nil => exact h3
    | cons f s =>
      refine ⟨h3, h4 f s rfl, Seg.congr _ _ (fun X hX => h5 X (Or.inr ?_) ?_ ?_) h.2.2⟩
      · rcases hX with rfl | ⟨x, hx, hX⟩
        · exact ⟨f, by simp, Or.inl rfl⟩
        · exact ⟨x, by simp [hx], hX⟩
      · rcases hX with rfl | ⟨x, hx, rfl | rfl⟩
        · exact Ne.symm (hA f (by simp)).1
        · exact Ne.symm (hA x (by simp [hx])).1
        · exact Ne.symm (hA x (by simp [hx])).2
      · rintro f' s' ⟨rfl, rfl⟩
        rcases hX with rfl | ⟨x, hx, rfl | rfl⟩
        · exact nx_pv
        · exact nx_pv
        · intro e'; have := pvA_inj e'; subst this; simp at hn; exact hn.1 hx
  | x :: p, A, h, hn, hA, h1, h2, h3, h4, h5 => by
    have hn' : x ∉ p ++ s ∧ (p ++ s).Nodup := by simpa using List.nodup_cons.1 hn
    refine ⟨(h5 A (Or.inl rfl) ?_ ?_).trans h.1, (h5 (pvA x) (Or.inr ⟨x, by simp, Or.inr rfl⟩) ?_ ?_).trans h.2.1, ?_⟩
    · obtain ⟨y, hy, g⟩ := ll_mem x p
      show A ≠ ll (nxA x) p
      rw [g]; exact (hA y (by simp at hy ⊢; rcases hy with rfl | hy <;> simp [*])).1
    · rintro f s' rfl; exact (hA f (by simp)).2
    · obtain ⟨y, hy, g⟩ := ll_mem x p
      show pvA x ≠ ll (nxA x) p
      rw [g]; exact pv_nx
    · rintro f s' rfl e'; have := pvA_inj e'; subst this; exact hn'.1 (by simp)
    · refine Seg.insert p (nxA x) h.2.2 hn'.2 (fun y hy => ⟨fun e' => ?_, nx_pv⟩) h1 h2 h3 h4 (fun X hX g1 g2 => h5 X (Or.inr ?_) g1 g2)
      · have := nxA_inj e'; subst this; exact hn'.1 hy
      · rcases hX with rfl | ⟨y, hy, hX⟩
        · exact ⟨x, by simp, Or.inl rfl⟩
        · exact ⟨y, List.mem_cons_of_mem _ hy, hX⟩

theorem Seg.remove {M M' : Addr → Option Addr} {e : Nat} {s : List Nat} : ∀ (p : List Nat) (A : Addr), Seg M A (p ++ e :: s) → (p ++ e :: s).Nodup → (∀ y, y ∈ p ++ e :: s → A ≠ nxA y ∧ A ≠ pvA y) →
    M' (ll A p) = hdP s → (∀ f s', s = f :: s' → M' (pvA f) = some (ll A p)) →
    (∀ X, (X = A ∨ ∃ x, x ∈ p ++ s ∧ (X = nxA x ∨ X = pvA x)) → X ≠ ll A p → (∀ f s', s = f :: s' → X ≠ pvA f) → M' X = M X) → Seg M' A (p ++ s)
  | [], A, h, hn, hA, h1, h4, h5 => by
    cases s with
    | nil => exact h1
    | cons f s =>
      refine ⟨h1, h4 f s rfl, Seg.congr _ _ (fun X hX => h5 X (Or.inr ?_) ?_ ?_) h.2.2.2.2⟩
      · rcases hX with rfl | ⟨x, hx, hX⟩
        · exact ⟨f, by simp, Or.inl rfl⟩
        · exact ⟨x, by simp [hx], hX⟩
      · rcases hX with rfl | ⟨x, hx, rfl | rfl⟩
        · exact Ne.symm (hA f (by simp)).1
        · exact Ne.symm (hA x (by simp [hx])).1
        · exact Ne.symm (hA x (by simp [hx])).2
      · rintro f' s' ⟨rfl, rfl⟩
        rcases hX with rfl | ⟨x, hx, rfl | rfl⟩
        · exact nx_pv
        · exact nx_pv
        · intro e'; have := pvA_inj e'; subst this; simp at hn; exact hn.2.1 hx
  | x :: p, A, h, hn, hA, h1, h4, h5 => by
    have hn' : x ∉ p ++ e :: s ∧ (p ++ e :: s).Nodup := by simpa using List.nodup_cons.1 hn
    have hsub : ∀ y, y ∈ p ++ s → y ∈ p ++ e :: s := fun y hy => by simp at hy ⊢; rcases hy with hy | hy <;> simp [hy]
    refine ⟨(h5 A (Or.inl rfl) ?_ ?_).trans h.1, (h5 (pvA x) (Or.inr ⟨x, by simp, Or.inr rfl⟩) ?_ ?_).trans h.2.1, ?_⟩
    · obtain ⟨y, hy, g⟩ := ll_mem x p
      show A ≠ ll (nxA x) p
      rw [g]; exact (hA y (by simp at hy ⊢; rcases hy with rfl | hy <;> simp [*])).1
    · rintro f s' rfl; exact (hA f (by simp)).2
    · obtain ⟨y, hy, g⟩ := ll_mem x p
      show pvA x ≠ ll (nxA x) p
      rw [g]; exact pv_nx
    · rintro f s' rfl e'; have := pvA_inj e'; subst this; exact hn'.1 (by simp)
    · refine Seg.remove p (nxA x) h.2.2 hn'.2 (fun y hy => ⟨fun e' => ?_, nx_pv⟩) h1 h4 (fun X hX g1 g2 => h5 X (Or.inr ?_) g1 g2)
      · have := nxA_inj e'; subst this; exact hn'.1 hy
      · rcases hX with rfl | ⟨y, hy, hX⟩
        · exact ⟨x, by simp, Or.inl rfl⟩
        · exact ⟨y, List.mem_cons_of_mem _ hy, hX⟩

/-- A slot in cells o .. o+4 of block b lists es. -/
def FrOk (E : Nat → Prop) (x : Option Addr) : Prop := x = none ∨ ∃ y, E y ∧ x = some ⟨y, 0, none⟩
def SlotOk (E : Nat → Prop) (M : Addr → Option Addr) (b o : Nat) (es : List Nat) : Prop :=
  Seg M ⟨b, o, none⟩ es ∧ FrOk E (M ⟨b, o + 4, none⟩) ∧ ((es = [] ∧ M ⟨b, o + 1, none⟩ = none) ∨
    (M ⟨b, o + 1, none⟩ = some (ll ⟨b, o, none⟩ es) ∧ ∃ p s, es = p ++ s ∧ M ⟨b, o + 2, none⟩ = some (ll ⟨b, o, none⟩ p)))

theorem SlotOk.congr {E : Nat → Prop} {M M' : Addr → Option Addr} {b o : Nat} {es : List Nat} (h : SlotOk E M b o es) (g0 : ∀ j, j < 5 → M' ⟨b, o + j, none⟩ = M ⟨b, o + j, none⟩) (g : ∀ x, x ∈ es → M' (nxA x) = M (nxA x) ∧ M' (pvA x) = M (pvA x)) : SlotOk E M' b o es := by
  refine ⟨h.1.congr _ _ (fun X hX => ?_), by rw [g0 4 (by omega)]; exact h.2.1, ?_⟩
  · rcases hX with rfl | ⟨x, hx, rfl | rfl⟩
    · exact g0 0 (by omega)
    · exact (g x hx).1
    · exact (g x hx).2
  · rw [g0 1 (by omega), g0 2 (by omega)]; exact h.2.2

/-- What 'push' does to the slot. T is the link it pushes at. -/
theorem SlotOk.push {E : Nat → Prop} {M M' : Addr → Option Addr} {b o e : Nat} {p s : List Nat} (h : Seg M ⟨b, o, none⟩ (p ++ s)) (hn : (p ++ s).Nodup) (hb : ∀ y, y ∈ p ++ s → y ≠ b)
    (h1 : M' (ll ⟨b, o, none⟩ p) = some (enA e)) (h2 : M' (pvA e) = some (ll ⟨b, o, none⟩ p)) (h3 : M' (nxA e) = hdP s) (h4 : ∀ f s', s = f :: s' → M' (pvA f) = some (nxA e))
    (h5 : ∀ X, (X = ⟨b, o, none⟩ ∨ ∃ x, x ∈ p ++ s ∧ (X = nxA x ∨ X = pvA x)) → X ≠ ll ⟨b, o, none⟩ p → (∀ f s', s = f :: s' → X ≠ pvA f) → M' X = M X)
    (h8 : FrOk E (M' ⟨b, o + 4, none⟩)) (h6 : M' ⟨b, o + 1, none⟩ = some (ll ⟨b, o, none⟩ (p ++ e :: s))) (h7 : ∃ q r, p ++ e :: s = q ++ r ∧ M' ⟨b, o + 2, none⟩ = some (ll ⟨b, o, none⟩ q)) : SlotOk E M' b o (p ++ e :: s) :=
  ⟨Seg.insert p _ h hn (fun y hy => ⟨fun e' => hb y hy (by simp [nxA] at e'; exact e'.1.symm), fun e' => hb y hy (by simp [pvA] at e'; exact e'.1.symm)⟩) h1 h2 h3 h4 h5, h8, Or.inr ⟨h6, h7⟩⟩

theorem ll_nx_iff {A : Addr} {e : Nat} {p s q r : List Nat} (hA : A ≠ nxA e) (hn : (p ++ e :: s).Nodup) (hq : p ++ e :: s = q ++ r) : ll A q = nxA e ↔ q = p ++ [e] := by
  constructor
  · intro h
    rcases List.eq_nil_or_concat q with rfl | ⟨q', z, rfl⟩
    · exact absurd h hA
    · rw [List.concat_eq_append] at h hq ⊢
      rw [ll_app A z [] q' A] at h
      have hz : z = e := nxA_inj h
      subst hz
      rw [List.append_assoc] at hq
      have : p = q' := by
        clear h hA
        induction p generalizing q' with
        | nil =>
          cases q' with
          | nil => rfl
          | cons y q' =>
            simp at hq
            obtain ⟨rfl, hq⟩ := hq
            rw [hq] at hn; simp at hn
        | cons x p ih =>
          cases q' with
          | nil =>
            simp at hq
            obtain ⟨rfl, hq⟩ := hq
            simp at hn
          | cons y q' =>
            simp at hq
            obtain ⟨rfl, hq⟩ := hq
            rw [ih q' (List.nodup_cons.1 (by simpa using hn)).2 (by simpa using hq)]
      rw [this]
  · rintro rfl; exact ll_app A e [] p A

/-- What 'forget' and 'leave' do to the slot. -/
theorem SlotOk.leave {E : Nat → Prop} {M M' : Addr → Option Addr} {b o e : Nat} {p s : List Nat} (h : SlotOk E M b o (p ++ e :: s)) (hE : ∀ y, y ∈ p ++ e :: s → E y) (hn : (p ++ e :: s).Nodup) (hb : ∀ y, y ∈ p ++ e :: s → y ≠ b)
    (h1 : M' (ll ⟨b, o, none⟩ p) = hdP s) (h4 : ∀ f s', s = f :: s' → M' (pvA f) = some (ll ⟨b, o, none⟩ p))
    (h5 : ∀ X, (X = ⟨b, o, none⟩ ∨ ∃ x, x ∈ p ++ s ∧ (X = nxA x ∨ X = pvA x)) → X ≠ ll ⟨b, o, none⟩ p → (∀ f s', s = f :: s' → X ≠ pvA f) → M' X = M X)
    (h8 : M' ⟨b, o + 4, none⟩ = if M ⟨b, o + 4, none⟩ = some (enA e) then M (nxA e) else M ⟨b, o + 4, none⟩)
    (h6 : M' ⟨b, o + 1, none⟩ = if M ⟨b, o + 1, none⟩ = some (nxA e) then M (pvA e) else M ⟨b, o + 1, none⟩)
    (h7 : M' ⟨b, o + 2, none⟩ = if M ⟨b, o + 2, none⟩ = some (nxA e) then M (pvA e) else M ⟨b, o + 2, none⟩) : SlotOk E M' b o (p ++ s) := by
  have hA : ∀ y, y ∈ p ++ e :: s → (⟨b, o, none⟩ : Addr) ≠ nxA y ∧ (⟨b, o, none⟩ : Addr) ≠ pvA y := fun y hy => ⟨fun e' => hb y hy (by simp [nxA] at e'; exact e'.1.symm), fun e' => hb y hy (by simp [pvA] at e'; exact e'.1.symm)⟩
  have hAe := (hA e (by simp)).1
  refine ⟨Seg.remove p _ h.1 hn hA h1 h4 h5, ?_, Or.inr ?_⟩
  · rw [h8]
    split
    · rw [h.1.nx]
      cases s with
      | nil => exact Or.inl rfl
      | cons f s => exact Or.inr ⟨f, hE f (by simp), rfl⟩
    · exact h.2.1
  rcases h.2.2 with ⟨h0, _⟩ | ⟨t1, q, r, hq, t2⟩
  · simp at h0
  rw [t1] at h6
  rw [t2] at h7
  rw [h.1.pv] at h6 h7
  constructor
  · rw [h6, ll_app ⟨b, o, none⟩]
    cases s with
    | nil => rw [if_pos (by rfl), List.append_nil]
    | cons f s =>
      rw [if_neg, ll_app ⟨b, o, none⟩]; · rfl
      intro e'
      obtain ⟨y, hy, g⟩ := ll_mem f s
      have e2 : ll (nxA f) s = nxA e := by simpa [ll] using e'
      rw [g] at e2
      have := nxA_inj e2
      subst this
      exact (List.nodup_cons.1 (List.nodup_append.1 hn).2.1).1 hy
  · by_cases hc : q = p ++ [e]
    · rw [if_pos (by rw [(ll_nx_iff hAe hn hq).2 hc])] at h7
      exact ⟨p, s, rfl, h7⟩
    · rw [if_neg (by rw [Option.some.injEq, ll_nx_iff hAe hn hq]; exact hc)] at h7
      rcases List.append_eq_append_iff.1 hq with ⟨c, rfl, hs⟩ | ⟨c, rfl, hs⟩
      · cases c with
        | nil => exact ⟨p, s, rfl, by simpa using h7⟩
        | cons z c =>
          simp at hs
          obtain ⟨rfl, rfl⟩ := hs
          cases c with
          | nil => exact absurd rfl hc
          | cons z' c =>
            refine ⟨p ++ z' :: c, r, by simp, ?_⟩
            rw [h7, ll_app ⟨b, o, none⟩, ll_app ⟨b, o, none⟩]; rfl
      · exact ⟨q, c ++ s, by simp, h7⟩
end Go.Proofs.YbulkajrsDoor
