import Derived.Test.YbulkajrsDoorMem
namespace Go.Proofs.YbulkajrsDoor
open Go.RowKit
set_option linter.unusedVariables false

theorem updA_eq (M : Addr → Option Addr) (A : Addr) (p : Option Addr) : updA M A p A = p := by simp [updA]
theorem updA_ne {M : Addr → Option Addr} {A X : Addr} {p : Option Addr} (h : X ≠ A) : updA M A p X = M X := by simp [updA, h]
theorem updA_self {M : Addr → Option Addr} {A : Addr} {p : Option Addr} (h : M A = p) : updA M A p = M := by
  funext X
  by_cases e : X = A
  · subst e; rw [updA_eq, h]
  · exact updA_ne e

theorem ptr_set_of {w : World} {M : Addr → Option Addr} (hM : ptr w = M) {A : Addr} (h : Pt w A) (p : Option Addr) : ptr (w.setCell A (.pointer p)) = updA M A p := (ptr_set h p).trans (congrArg (fun F => updA F A p) hM)

/-- The next one's 'pprev'. -/
def fixP (M : Addr → Option Addr) (e : Nat) : List Nat → Addr → Option Addr
  | [] => M
  | f :: _ => updA M (pvA f) (some (nxA e))

/-- The last link is none of these. -/
theorem ll_ne {b o : Nat} {p : List Nat} (yb : ∀ y, y ∈ p → y ≠ b) :
    (∀ x, x ≠ b → ll ⟨b, o, none⟩ p ≠ pvA x) ∧ (∀ x, x ≠ b → x ∉ p → ll ⟨b, o, none⟩ p ≠ nxA x) ∧ (∀ j, 0 < j → ll ⟨b, o, none⟩ p ≠ ⟨b, o + j, none⟩) ∧
    (ll ⟨b, o, none⟩ p).spot = none ∧ ((ll ⟨b, o, none⟩ p).block = b ∧ (ll ⟨b, o, none⟩ p).off = o ∨ (ll ⟨b, o, none⟩ p).off = 3 ∧ (ll ⟨b, o, none⟩ p).block ∈ p) := by
  rcases ll_cases ⟨b, o, none⟩ p with h | ⟨y, hy, h⟩
  · rw [h]
    exact ⟨fun x hx e => hx (by simp [pvA] at e; exact e.1.symm), fun x hx _ e => hx (by simp [nxA] at e; exact e.1.symm), fun j hj e => by have h2 : o = o + j := congrArg Addr.off e; omega, rfl, Or.inl ⟨rfl, rfl⟩⟩
  · rw [h]
    exact ⟨fun x hx => nx_pv, fun x hx hp e => hp (nxA_inj e ▸ hy), fun j hj e => yb y hy (by simp [nxA] at e; exact e.1), rfl, Or.inr ⟨rfl, hy⟩⟩

theorem slot_ne {b o j x : Nat} (h : x ≠ b) : (⟨b, o + j, none⟩ : Addr) ≠ nxA x ∧ (⟨b, o + j, none⟩ : Addr) ≠ pvA x :=
  ⟨fun e => h (by simp [nxA] at e; exact e.1.symm), fun e => h (by simp [pvA] at e; exact e.1.symm)⟩

theorem push_pure {E : Nat → Prop} {M : Addr → Option Addr} {b o e : Nat} {p s q r : List Nat} (hseg : Seg M ⟨b, o, none⟩ (p ++ s)) (hn : (p ++ s).Nodup) (yb : ∀ y, y ∈ p ++ s → y ≠ b) (eb : e ≠ b) (he : e ∉ p ++ s)
    (fr : FrOk E (M ⟨b, o + 4, none⟩)) (hq : p ++ e :: s = q ++ r) (M' : Addr → Option Addr)
    (hM : M' = updA (updA (fixP (updA (updA (updA M (nxA e) (hdP s)) (pvA e) (some (ll ⟨b, o, none⟩ p))) (ll ⟨b, o, none⟩ p) (some (enA e))) e s) ⟨b, o + 1, none⟩ (some (ll ⟨b, o, none⟩ (p ++ e :: s)))) ⟨b, o + 2, none⟩ (some (ll ⟨b, o, none⟩ q))) :
    SlotOk E M' b o (p ++ e :: s) ∧ ∀ X, Away b o e (p ++ s) X → M' X = M X := by
  obtain ⟨t1, t2, t3, _, t5⟩ := ll_ne (b := b) (o := o) (p := p) (fun y hy => yb y (by simp [hy]))
  have t2e := t2 e eb (fun h => he (by simp [h]))
  -- everywhere but at the slot's two cells
  have key : ∀ X, X ≠ ⟨b, o + 1, none⟩ → X ≠ ⟨b, o + 2, none⟩ → M' X = fixP (updA (updA (updA M (nxA e) (hdP s)) (pvA e) (some (ll ⟨b, o, none⟩ p))) (ll ⟨b, o, none⟩ p) (some (enA e))) e s X :=
    fun X h1 h2 => by rw [hM, updA_ne h2, updA_ne h1]
  have key2 : ∀ X, X ≠ ⟨b, o + 1, none⟩ → X ≠ ⟨b, o + 2, none⟩ → (∀ f s', s = f :: s' → X ≠ pvA f) → M' X = updA (updA (updA M (nxA e) (hdP s)) (pvA e) (some (ll ⟨b, o, none⟩ p))) (ll ⟨b, o, none⟩ p) (some (enA e)) X :=
    fun X h1 h2 h3 => by
      rw [key X h1 h2]
      cases s with
      | nil => rfl
      | cons f s => exact updA_ne (h3 f s rfl)
  have ne1 : ∀ x, x ≠ b → ∀ j, nxA x ≠ ⟨b, o + j, none⟩ ∧ pvA x ≠ ⟨b, o + j, none⟩ := fun x hx j => ⟨Ne.symm (slot_ne hx).1, Ne.symm (slot_ne hx).2⟩
  constructor
  · refine SlotOk.push hseg hn yb ?_ ?_ ?_ ?_ ?_ ?_ ?_ ?_
    · rw [key2 _ (t3 1 (by omega)) (t3 2 (by omega)) (fun f s' hs => t1 f (yb f (by simp [hs]))), updA_eq]
    · rw [key2 _ (ne1 e eb 1).2 (ne1 e eb 2).2 (fun f s' hs h => he (by rw [pvA_inj h, hs]; simp)), updA_ne (Ne.symm (t1 e eb)), updA_eq]
    · rw [key2 _ (ne1 e eb 1).1 (ne1 e eb 2).1 (fun f s' hs => nx_pv), updA_ne (Ne.symm t2e), updA_ne nx_pv, updA_eq]
    · rintro f s' rfl
      rw [key _ (ne1 f (yb f (by simp)) 1).2 (ne1 f (yb f (by simp)) 2).2]
      exact updA_eq _ _ _
    · intro X hX h1 h2
      have hb : X = ⟨b, o, none⟩ ∨ ∃ x, x ∈ p ++ s ∧ (X = nxA x ∨ X = pvA x) := hX
      have g1 : ∀ j, 0 < j → X ≠ ⟨b, o + j, none⟩ := by
        intro j hj
        rcases hb with rfl | ⟨x, hx, rfl | rfl⟩
        · intro e'; have h2 : o = o + j := congrArg Addr.off e'; omega
        · exact (ne1 x (yb x hx) j).1
        · exact (ne1 x (yb x hx) j).2
      have g2 : X ≠ nxA e ∧ X ≠ pvA e := by
        rcases hb with rfl | ⟨x, hx, rfl | rfl⟩
        · exact slot_ne (j := 0) eb
        · exact ⟨fun e' => he (nxA_inj e' ▸ hx), nx_pv⟩
        · exact ⟨pv_nx, fun e' => he (pvA_inj e' ▸ hx)⟩
      rw [key2 X (g1 1 (by omega)) (g1 2 (by omega)) h2, updA_ne h1, updA_ne g2.2, updA_ne g2.1]
    · rw [key2 _ (by simp) (by simp) (fun f s' hs => (slot_ne (yb f (by simp [hs]))).2), updA_ne (Ne.symm (t3 4 (by omega))), updA_ne (slot_ne eb).2, updA_ne (slot_ne eb).1]
      exact fr
    · rw [hM, updA_ne (by simp), updA_eq]
    · exact ⟨q, r, hq, by rw [hM, updA_eq]⟩
  · rintro X ⟨a1, a2, a3⟩
    have g1 : ∀ j, j < 5 → X ≠ ⟨b, o + j, none⟩ := fun j hj e' => a1 (by subst e'; exact ⟨rfl, by simp, by simp; omega⟩)
    have g3 : ∀ x, X.block ≠ x → X ≠ nxA x ∧ X ≠ pvA x := fun x hx => ⟨fun e' => hx (by rw [e']; rfl), fun e' => hx (by rw [e']; rfl)⟩
    have g4 : X ≠ ll ⟨b, o, none⟩ p := fun e' => by
      rcases t5 with ⟨h1, h2⟩ | ⟨h1, h2⟩
      · exact a1 (by rw [e']; exact ⟨h1, by omega, by omega⟩)
      · exact a3 (by rw [e']; simp [h2])
    rw [key2 X (g1 1 (by omega)) (g1 2 (by omega)) (fun f s' hs => (g3 f (fun h => a3 (by rw [h, hs]; simp))).2), updA_ne g4, updA_ne (g3 e a2).2, updA_ne (g3 e a2).1]

theorem addr_eta {A : Addr} (h : A.spot = none) : (⟨A.block, A.off, none⟩ : Addr) = A := by
  obtain ⟨x, y, z⟩ := A
  simp at h; subst h; rfl

set_option maxHeartbeats 1000000 in
theorem push_ok (B : Nat) (E : Nat → Prop) (b o e z : Nat) (at0 : Bool) (es : List Nat) (D : Nat → Nat) (w : World) (hB : IsB w b 72 z) (hlow : B ≤ b) (p0 : Pt w ⟨b, o, none⟩) (p1 : Pt w ⟨b, o + 1, none⟩) (p2 : Pt w ⟨b, o + 2, none⟩)
    (he : EntSt B w D e) (hes : ∀ x, x ∈ es → EntSt B w D x) (hn : es.Nodup) (hne : e ∉ es) (h : SlotOk E (ptr w) b o es) :
    Calls Ybad.prog 29 #[.pointer (some ⟨b, o, none⟩), .pointer (some ⟨e, 0, none⟩), .bool at0] w fun x w' => x = .returned (.tuple #[]) ∧ Ptrs B w w' ∧
      ∃ p s, es = p ++ s ∧ SlotOk E (ptr w') b o (p ++ e :: s) ∧ ∀ X, Away b o e es X → ptr w' X = ptr w X := by
  have eb : e ≠ b := he.isB.ne hB (by decide)
  have yb : ∀ y, y ∈ es → y ≠ b := fun y hy => (hes y hy).isB.ne hB (by decide)
  have i1 : (∃ z, IsB w b 72 z ∨ IsB w b 51 z) ∧ B ≤ b := ⟨⟨_, Or.inl hB⟩, hlow⟩
  have i2 : (∃ z, IsB w e 72 z ∨ IsB w e 51 z) ∧ B ≤ e := ⟨⟨_, Or.inr he.isB⟩, he.low⟩
  have q3 : Pt w ⟨e, 3, none⟩ := he.p3
  have q4 : Pt w ⟨e, 4, none⟩ := he.p4
  obtain ⟨hseg, hfr, ⟨rfl, ht⟩ | ⟨ht, p, s, rfl, hr⟩⟩ := h
  · have hh : ptr w ⟨b, o, none⟩ = none := hseg
    have c0 := p0.get
    have c1 := p1.get
    rw [hh] at c0
    rw [ht] at c1
    have n1 : (⟨b, o, none⟩ : Addr) ≠ ⟨b, o + 1, none⟩ ∧ (⟨b, o, none⟩ : Addr) ≠ ⟨b, o + 2, none⟩ ∧ (⟨b, o + 4, none⟩ : Addr) ≠ ⟨b, o + 1, none⟩ ∧ (⟨b, o + 4, none⟩ : Addr) ≠ ⟨b, o + 2, none⟩ := by simp
    have P0 : Ptrs B w ((((w.setCell ⟨b, o + 1, none⟩ (.pointer (some ⟨b, o, none⟩))).setCell ⟨b, o + 2, none⟩ (.pointer (some ⟨b, o, none⟩))).setCell ⟨e, 3, none⟩ (.pointer none)).setCell ⟨e, 4, none⟩ (.pointer (some ⟨b, o, none⟩))) :=
      ((((Ptrs.refl B w).set p1 _ i1).set p2 _ i1).set q3 _ i2).set q4 _ i2
    have hfr0 : ∀ X, Away b o e [] X → updA (updA (ptr w) ⟨b, o + 1, none⟩ (some ⟨b, o, none⟩)) ⟨b, o + 2, none⟩ (some ⟨b, o, none⟩) X = ptr w X := fun X a => by
      rw [updA_ne (fun e' => a.1 (by rw [e']; simp)), updA_ne (fun e' => a.1 (by rw [e']; simp))]
    cases at0
    · refine (push_new b o e _ _ _ w (by omega) c0 (hB.frozen _) c1 (hB.frozen _) p2.get (hB.frozen _) q3.get (he.isB.frozen _) q4.get (he.isB.frozen _)).mono ?_
      rintro x w' ⟨hx, rfl⟩
      have P := ((P0.set p0 (some ⟨e, 0, none⟩) i1).set p1 (some ⟨e, 3, none⟩) i1)
      have hM := push_pure (E := E) (M := updA (updA (ptr w) ⟨b, o + 1, none⟩ (some ⟨b, o, none⟩)) ⟨b, o + 2, none⟩ (some ⟨b, o, none⟩)) (b := b) (o := o) (e := e) (p := []) (s := []) (q := []) (r := [e])
        (by show updA _ _ _ _ = none; rw [updA_ne n1.2.1, updA_ne n1.1]; exact hh) (by simp) (by simp) eb (by simp) (by rw [updA_ne n1.2.2.2, updA_ne n1.2.2.1]; exact hfr) rfl _ rfl
      have hE : ptr (w.setCell ⟨b, o + 1, none⟩ (.pointer (some ⟨b, o, none⟩)) |>.setCell ⟨b, o + 2, none⟩ (.pointer (some ⟨b, o, none⟩)) |>.setCell ⟨e, 3, none⟩ (.pointer none) |>.setCell ⟨e, 4, none⟩ (.pointer (some ⟨b, o, none⟩)) |>.setCell ⟨b, o, none⟩ (.pointer (some ⟨e, 0, none⟩)) |>.setCell ⟨b, o + 1, none⟩ (.pointer (some ⟨e, 3, none⟩))) =
          updA (updA (fixP (updA (updA (updA (updA (updA (ptr w) ⟨b, o + 1, none⟩ (some ⟨b, o, none⟩)) ⟨b, o + 2, none⟩ (some ⟨b, o, none⟩)) (nxA e) (hdP [])) (pvA e) (some (ll ⟨b, o, none⟩ []))) (ll ⟨b, o, none⟩ []) (some (enA e))) e []) ⟨b, o + 1, none⟩ (some (ll ⟨b, o, none⟩ ([] ++ e :: [])))) ⟨b, o + 2, none⟩ (some (ll ⟨b, o, none⟩ [])) := by
        refine (ptr_set_of (ptr_set_of (ptr_set_of (ptr_set_of (ptr_set_of (ptr_set_of rfl (p1) _) ((p2).set _ _) _) (((q3).set _ _).set _ _) _) ((((q4).set _ _).set _ _).set _ _) _) (((((p0).set _ _).set _ _).set _ _).set _ _) _) ((((((p1).set _ _).set _ _).set _ _).set _ _).set _ _) _).trans (Eq.symm (updA_self ?_))
        · rw [updA_ne (by simp)]
          show updA _ _ _ _ = _
          rw [updA_ne (by show _ ≠ (⟨b, o, none⟩ : Addr); simp), updA_ne (slot_ne eb).2, updA_ne (slot_ne eb).1, updA_eq]; rfl
      refine ⟨hx, P.drew, [], [], rfl, ?_, ?_⟩
      · rw [ptr_drew, hE]; exact hM.1
      · intro X a
        rw [ptr_drew, ← hfr0 X a, ← hM.2 X a, hE]
    · refine (push_newStart b o e _ _ _ w (by omega) c0 (hB.frozen _) c1 (hB.frozen _) p2.get (hB.frozen _) q3.get (he.isB.frozen _) q4.get (he.isB.frozen _)).mono ?_
      rintro x w' ⟨hx, rfl⟩
      have P := ((P0.set p0 (some ⟨e, 0, none⟩) i1).set p1 (some ⟨e, 3, none⟩) i1).set p2 (some ⟨e, 3, none⟩) i1
      have hM := push_pure (E := E) (M := updA (updA (ptr w) ⟨b, o + 1, none⟩ (some ⟨b, o, none⟩)) ⟨b, o + 2, none⟩ (some ⟨b, o, none⟩)) (b := b) (o := o) (e := e) (p := []) (s := []) (q := [e]) (r := [])
        (by show updA _ _ _ _ = none; rw [updA_ne n1.2.1, updA_ne n1.1]; exact hh) (by simp) (by simp) eb (by simp) (by rw [updA_ne n1.2.2.2, updA_ne n1.2.2.1]; exact hfr) rfl _ rfl
      have hE : ptr (w.setCell ⟨b, o + 1, none⟩ (.pointer (some ⟨b, o, none⟩)) |>.setCell ⟨b, o + 2, none⟩ (.pointer (some ⟨b, o, none⟩)) |>.setCell ⟨e, 3, none⟩ (.pointer none) |>.setCell ⟨e, 4, none⟩ (.pointer (some ⟨b, o, none⟩)) |>.setCell ⟨b, o, none⟩ (.pointer (some ⟨e, 0, none⟩)) |>.setCell ⟨b, o + 1, none⟩ (.pointer (some ⟨e, 3, none⟩)) |>.setCell ⟨b, o + 2, none⟩ (.pointer (some ⟨e, 3, none⟩))) =
          updA (updA (fixP (updA (updA (updA (updA (updA (ptr w) ⟨b, o + 1, none⟩ (some ⟨b, o, none⟩)) ⟨b, o + 2, none⟩ (some ⟨b, o, none⟩)) (nxA e) (hdP [])) (pvA e) (some (ll ⟨b, o, none⟩ []))) (ll ⟨b, o, none⟩ []) (some (enA e))) e []) ⟨b, o + 1, none⟩ (some (ll ⟨b, o, none⟩ ([] ++ e :: [])))) ⟨b, o + 2, none⟩ (some (ll ⟨b, o, none⟩ [e])) := by
        exact (ptr_set_of (ptr_set_of (ptr_set_of (ptr_set_of (ptr_set_of (ptr_set_of (ptr_set_of rfl (p1) _) ((p2).set _ _) _) (((q3).set _ _).set _ _) _) ((((q4).set _ _).set _ _).set _ _) _) (((((p0).set _ _).set _ _).set _ _).set _ _) _) ((((((p1).set _ _).set _ _).set _ _).set _ _).set _ _) _) (((((((p2).set _ _).set _ _).set _ _).set _ _).set _ _).set _ _) _)
      refine ⟨hx, P.drew, [], [], rfl, ?_, ?_⟩
      · rw [ptr_drew, hE]; exact hM.1
      · intro X a
        rw [ptr_drew, ← hfr0 X a, ← hM.2 X a, hE]
  · have ybp : ∀ y, y ∈ p → y ≠ b := fun y hy => yb y (by simp [hy])
    obtain ⟨u1, u2, u3, u4, u5⟩ := ll_ne (b := b) (o := o) (p := p) ybp
    have c2 := p2.get
    have c1 := p1.get
    rw [ht] at c1
    rw [hr] at c2
    cases at0
    · obtain ⟨t1, t2, t3, t4, t5⟩ := ll_ne (b := b) (o := o) (p := p ++ s) yb
      have t2e := t2 e eb hne
      have hT := Seg.at (s := []) (p ++ s) ⟨b, o, none⟩ (by simpa using hseg)
      generalize hTd : ll (⟨b, o, none⟩ : Addr) (p ++ s) = T at *
      have hTpt : Pt w T := by
        rcases ll_cases ⟨b, o, none⟩ (p ++ s) with h | ⟨y, hy, h⟩
        · rw [← hTd, h]; exact p0
        · rw [← hTd, h]; exact (hes y hy).p3
      have hTB : (∃ z, IsB w T.block 72 z ∨ IsB w T.block 51 z) ∧ B ≤ T.block := by
        rcases t5 with ⟨h, _⟩ | ⟨_, h⟩
        · rw [h]; exact i1
        · exact ⟨⟨_, Or.inr (hes _ h).isB⟩, (hes _ h).low⟩
      have fT : w.frozen? T = false := by
        rw [← addr_eta t4]
        obtain ⟨⟨z, h | h⟩, _⟩ := hTB
        · exact h.frozen _
        · exact h.frozen _
      have cT := hTpt.get
      rw [hT] at cT
      rw [← addr_eta t4] at c1 cT fT
      refine (push_end b o e T.block T.off _ _ w (by
        rcases t5 with h | ⟨h1, h2⟩
        · exact Or.inl h
        · exact Or.inr ⟨h1, yb _ h2, fun h => hne (h ▸ h2)⟩) eb c1 (hB.frozen _) cT fT q3.get (he.isB.frozen _) q4.get (he.isB.frozen _)).mono ?_
      rw [addr_eta t4] at *
      rintro x w' ⟨hx, rfl⟩
      have P := (((Ptrs.refl B w).set q3 none i2).set q4 (some T) i2)
      have P' := P.trans (Ptrs.set1 t4 (P.pt _ hTpt) (some ⟨e, 0, none⟩) (by obtain ⟨⟨z, hz⟩, hl⟩ := hTB; exact ⟨⟨z, by rw [P.isb, P.isb]; exact hz⟩, hl⟩))
      have hM := push_pure (E := E) (M := ptr w) (b := b) (o := o) (e := e) (p := p ++ s) (s := []) (q := p) (r := s ++ [e]) (by simpa using hseg) (by simpa using hn) (by simpa using yb) eb (by simpa using hne) hfr (by simp) _ rfl
      have hE : ptr ((((w.setCell ⟨e, 3, none⟩ (.pointer none)).setCell ⟨e, 4, none⟩ (.pointer (some T))).setCell T (.pointer (some ⟨e, 0, none⟩))).setCell ⟨b, o + 1, none⟩ (.pointer (some ⟨e, 3, none⟩))) =
          updA (updA (fixP (updA (updA (updA (ptr w) (nxA e) (hdP [])) (pvA e) (some (ll ⟨b, o, none⟩ (p ++ s)))) (ll ⟨b, o, none⟩ (p ++ s)) (some (enA e))) e []) ⟨b, o + 1, none⟩ (some (ll ⟨b, o, none⟩ (p ++ s ++ e :: [])))) ⟨b, o + 2, none⟩ (some (ll ⟨b, o, none⟩ p)) := by
        rw [hTd, ll_app ⟨b, o, none⟩ e [] (p ++ s)]
        refine (ptr_set_of (ptr_set_of (ptr_set_of (ptr_set_of rfl (q3) _) ((q4).set _ _) _) (((hTpt).set _ _).set _ _) _) ((((p1).set _ _).set _ _).set _ _) _).trans (Eq.symm (updA_self ?_))
        · rw [updA_ne (by simp)]
          show updA _ _ _ _ = _
          rw [updA_ne (Ne.symm (t3 2 (by omega))), updA_ne (slot_ne eb).2, updA_ne (slot_ne eb).1, hr]
      refine ⟨hx, P'.set p1 _ i1, p ++ s, [], by simp, ?_, ?_⟩
      · rw [hE]; exact hM.1
      · intro X a
        rw [hE]; exact hM.2 X (by simpa using a)
    · have hT := Seg.at (s := s) p ⟨b, o, none⟩ hseg
      have u2e := u2 e eb (fun h => hne (by simp [h]))
      have hnp : e ∉ p := fun h => hne (by simp [h])
      generalize hTd : ll (⟨b, o, none⟩ : Addr) p = T at *
      have hTpt : Pt w T := by
        rcases ll_cases ⟨b, o, none⟩ p with h | ⟨y, hy, h⟩
        · rw [← hTd, h]; exact p0
        · rw [← hTd, h]; exact (hes y (by simp [hy])).p3
      have hTB : (∃ z, IsB w T.block 72 z ∨ IsB w T.block 51 z) ∧ B ≤ T.block := by
        rcases u5 with ⟨h, _⟩ | ⟨_, h⟩
        · rw [h]; exact i1
        · exact ⟨⟨_, Or.inr (hes _ (by simp [h])).isB⟩, (hes _ (by simp [h])).low⟩
      have fT : w.frozen? T = false := by
        rw [← addr_eta u4]
        obtain ⟨⟨z, h | h⟩, _⟩ := hTB
        · exact h.frozen _
        · exact h.frozen _
      have cT := hTpt.get
      rw [hT] at cT
      have hT4 : (ll ⟨b, o, none⟩ (p ++ s)).spot = none := (ll_ne (b := b) (o := o) (p := p ++ s) yb).2.2.2.1
      rw [← addr_eta hT4] at c1
      rw [← addr_eta u4] at c2 cT fT
      have P : ∀ v, Ptrs B w ((w.setCell ⟨e, 3, none⟩ (.pointer v)).setCell ⟨e, 4, none⟩ (.pointer (some T))) := fun v => (((Ptrs.refl B w).set q3 v i2).set q4 (some T) i2)
      have P' := fun v => (P v).trans (Ptrs.set1 u4 ((P v).pt _ hTpt) (some ⟨e, 0, none⟩) (by obtain ⟨⟨z, hz⟩, hl⟩ := hTB; exact ⟨⟨z, by rw [(P v).isb, (P v).isb]; exact hz⟩, hl⟩))
      cases s with
      | nil =>
        refine (push_startEnd b o e _ _ T.block T.off _ _ w (by
          rcases u5 with h | ⟨h1, h2⟩
          · exact Or.inl h
          · exact Or.inr ⟨h1, ybp _ h2, fun h => hnp (h ▸ h2)⟩) eb c1 (hB.frozen _) c2 (hB.frozen _) cT fT q3.get (he.isB.frozen _) q4.get (he.isB.frozen _)).mono ?_
        rw [addr_eta u4] at *
        rintro x w' ⟨hx, rfl⟩
        have hM := push_pure (E := E) (M := ptr w) (b := b) (o := o) (e := e) (p := p) (s := []) (q := p ++ [e]) (r := []) hseg hn yb eb hne hfr (by simp) _ rfl
        have hE : ptr (((((w.setCell ⟨e, 3, none⟩ (.pointer none)).setCell ⟨e, 4, none⟩ (.pointer (some T))).setCell T (.pointer (some ⟨e, 0, none⟩))).setCell ⟨b, o + 1, none⟩ (.pointer (some ⟨e, 3, none⟩))).setCell ⟨b, o + 2, none⟩ (.pointer (some ⟨e, 3, none⟩))) =
            updA (updA (fixP (updA (updA (updA (ptr w) (nxA e) (hdP [])) (pvA e) (some (ll ⟨b, o, none⟩ p))) (ll ⟨b, o, none⟩ p) (some (enA e))) e []) ⟨b, o + 1, none⟩ (some (ll ⟨b, o, none⟩ (p ++ e :: [])))) ⟨b, o + 2, none⟩ (some (ll ⟨b, o, none⟩ (p ++ [e]))) := by
          rw [hTd, ll_app ⟨b, o, none⟩ e [] p]
          exact (ptr_set_of (ptr_set_of (ptr_set_of (ptr_set_of (ptr_set_of rfl (q3) _) ((q4).set _ _) _) (((hTpt).set _ _).set _ _) _) ((((p1).set _ _).set _ _).set _ _) _) (((((p2).set _ _).set _ _).set _ _).set _ _) _)
        refine ⟨hx, ((P' none).set p1 _ i1).set p2 _ i1, p, [], rfl, ?_, ?_⟩
        · rw [hE]; exact hM.1
        · intro X a
          rw [hE]; exact hM.2 X a
      | cons f s =>
        have hf := hes f (by simp)
        have r4 : Pt w ⟨f, 4, none⟩ := hf.p4
        have fe : ¬ f = e := fun h => hne (by simp [h])
        have fp : f ∉ p := fun h => by
          have := List.nodup_append.1 hn
          exact this.2.2 f h f (by simp) rfl
        refine (push_startMid b o e f _ _ T.block T.off _ _ _ w (by
          rcases u5 with h | ⟨h1, h2⟩
          · exact Or.inl h
          · exact Or.inr ⟨h1, ybp _ h2, fun h => hnp (h ▸ h2), fun h => fp (h ▸ h2)⟩) eb (yb f (by simp)) fe c1 c2 (hB.frozen _) cT fT q3.get (he.isB.frozen _) q4.get (he.isB.frozen _) r4.get (hf.isB.frozen _)).mono ?_
        rw [addr_eta u4] at *
        rintro x w' ⟨hx, rfl⟩
        have hM := push_pure (E := E) (M := ptr w) (b := b) (o := o) (e := e) (p := p) (s := f :: s) (q := p ++ [e]) (r := f :: s) hseg hn yb eb hne hfr (by simp) _ rfl
        have hE : ptr (((((w.setCell ⟨e, 3, none⟩ (.pointer (some ⟨f, 0, none⟩))).setCell ⟨e, 4, none⟩ (.pointer (some T))).setCell T (.pointer (some ⟨e, 0, none⟩))).setCell ⟨f, 4, none⟩ (.pointer (some ⟨e, 3, none⟩))).setCell ⟨b, o + 2, none⟩ (.pointer (some ⟨e, 3, none⟩))) =
            updA (updA (fixP (updA (updA (updA (ptr w) (nxA e) (hdP (f :: s))) (pvA e) (some (ll ⟨b, o, none⟩ p))) (ll ⟨b, o, none⟩ p) (some (enA e))) e (f :: s)) ⟨b, o + 1, none⟩ (some (ll ⟨b, o, none⟩ (p ++ e :: f :: s)))) ⟨b, o + 2, none⟩ (some (ll ⟨b, o, none⟩ (p ++ [e]))) := by
          rw [updA_self (A := ⟨b, o + 1, none⟩), hTd, ll_app ⟨b, o, none⟩ e [] p]
          · exact (ptr_set_of (ptr_set_of (ptr_set_of (ptr_set_of (ptr_set_of rfl (q3) _) ((q4).set _ _) _) (((hTpt).set _ _).set _ _) _) ((((r4).set _ _).set _ _).set _ _) _) (((((p2).set _ _).set _ _).set _ _).set _ _) _)
          · show updA _ _ _ _ = _
            rw [updA_ne (slot_ne (yb f (by simp))).2, hTd, updA_ne (Ne.symm (u3 1 (by omega))), updA_ne (slot_ne eb).2, updA_ne (slot_ne eb).1, ht, ll_app ⟨b, o, none⟩, ll_app ⟨b, o, none⟩]; rfl
        refine ⟨hx, (((P' _).set r4 _ ⟨⟨_, Or.inr hf.isB⟩, hf.low⟩).set p2 _ i1).drew, p, f :: s, rfl, ?_, ?_⟩
        · rw [ptr_drew, hE]; exact hM.1
        · intro X a
          rw [ptr_drew, hE]; exact hM.2 X a

/-! ### forget and leave -/
structure Mid (B : Nat) (w0 w1 : World) (b o e : Nat) : Prop where
  p : Ptrs B w0 w1
  tl : ptr w1 ⟨b, o + 1, none⟩ = if ptr w0 ⟨b, o + 1, none⟩ = some (nxA e) then ptr w0 (pvA e) else ptr w0 ⟨b, o + 1, none⟩
  rs : ptr w1 ⟨b, o + 2, none⟩ = if ptr w0 ⟨b, o + 2, none⟩ = some (nxA e) then ptr w0 (pvA e) else ptr w0 ⟨b, o + 2, none⟩
  fr : ptr w1 ⟨b, o + 4, none⟩ = if ptr w0 ⟨b, o + 4, none⟩ = some (enA e) then ptr w0 (nxA e) else ptr w0 ⟨b, o + 4, none⟩
  same : ∀ X, X ≠ ⟨b, o + 1, none⟩ → X ≠ ⟨b, o + 2, none⟩ → X ≠ ⟨b, o + 4, none⟩ → ptr w1 X = ptr w0 X

theorem mid_if {w w0 : World} {A : Addr} (c : Prop) [Decidable c] (p : Option Addr) (h : Pt w A) : ptr (if c then w.setCell A (.pointer p) else w) = if c then updA (ptr w) A p else ptr w := by
  by_cases hc : c
  · rw [if_pos hc, if_pos hc]; exact ptr_set h p
  · rw [if_neg hc, if_neg hc]
theorem ptrs_if {B : Nat} {a w : World} (h : Ptrs B a w) {b o : Nat} (c : Prop) [Decidable c] (hA : Pt a ⟨b, o, none⟩) (p : Option Addr) (hb : (∃ z, IsB a b 72 z ∨ IsB a b 51 z) ∧ B ≤ b) : Ptrs B a (if c then w.setCell ⟨b, o, none⟩ (.pointer p) else w) := by
  by_cases hc : c
  · rw [if_pos hc]; exact h.set hA p hb
  · rw [if_neg hc]; exact h

theorem forgot_mid {B b o e z : Nat} {tl rs : Addr} {w : World} (hB : IsB w b 72 z) (hlow : B ≤ b) (p1 : Pt w ⟨b, o + 1, none⟩) (p2 : Pt w ⟨b, o + 2, none⟩) (p4 : Pt w ⟨b, o + 4, none⟩)
    (h1 : ptr w ⟨b, o + 1, none⟩ = some tl) (h2 : ptr w ⟨b, o + 2, none⟩ = some rs) :
    Mid B w (forgot b o e tl rs (ptr w ⟨b, o + 4, none⟩) (ptr w (nxA e)) (ptr w (pvA e)) w).drew.drew b o e := by
  have i1 : (∃ z, IsB w b 72 z ∨ IsB w b 51 z) ∧ B ≤ b := ⟨⟨_, Or.inl hB⟩, hlow⟩
  have P1 := ptrs_if (Ptrs.refl B w) (tl = (⟨e, 3, none⟩ : Addr)) p1 (ptr w (pvA e)) i1
  have P2 := ptrs_if P1 (rs = (⟨e, 3, none⟩ : Addr)) p2 (ptr w (pvA e)) i1
  have P3 := ptrs_if P2 (ptr w ⟨b, o + 4, none⟩ = some (⟨e, 0, none⟩ : Addr)) p4 (ptr w (nxA e)) i1
  have E1 := mid_if (w0 := w) (w := w) (tl = (⟨e, 3, none⟩ : Addr)) (ptr w (pvA e)) p1
  have E2 := mid_if (w0 := w) (rs = (⟨e, 3, none⟩ : Addr)) (ptr w (pvA e)) (P1.pt _ p2)
  have E3 := mid_if (w0 := w) (ptr w ⟨b, o + 4, none⟩ = some (⟨e, 0, none⟩ : Addr)) (ptr w (nxA e)) (P2.pt _ p4)
  rw [E1] at E2
  rw [E2] at E3
  have E : ptr (forgot b o e tl rs (ptr w ⟨b, o + 4, none⟩) (ptr w (nxA e)) (ptr w (pvA e)) w).drew.drew = _ := E3
  refine ⟨P3.drew.drew, ?_, ?_, ?_, ?_⟩
  · rw [E, h1]
    simp only [Option.some.injEq]
    show _ = if tl = (⟨e, 3, none⟩ : Addr) then _ else _
    split <;> split <;> split <;> simp_all [updA]
  · rw [E, h2]
    simp only [Option.some.injEq]
    show _ = if rs = (⟨e, 3, none⟩ : Addr) then _ else _
    split <;> split <;> split <;> simp_all [updA]
  · rw [E]
    show _ = if ptr w ⟨b, o + 4, none⟩ = some (⟨e, 0, none⟩ : Addr) then _ else _
    split <;> split <;> split <;> simp_all [updA]
  · intro X g1 g2 g3
    rw [E]
    split <;> split <;> split <;> simp_all [updA]

theorem forget_ok (B : Nat) (E : Nat → Prop) (b o e z : Nat) (p s : List Nat) (D : Nat → Nat) (w : World) (hB : IsB w b 72 z) (hlow : B ≤ b) (p1 : Pt w ⟨b, o + 1, none⟩) (p2 : Pt w ⟨b, o + 2, none⟩) (p4 : Pt w ⟨b, o + 4, none⟩)
    (hes : ∀ x, x ∈ p ++ e :: s → EntSt B w D x) (hE : ∀ x, E x → okB w x = true) (h : SlotOk E (ptr w) b o (p ++ e :: s)) :
    Calls Ybad.prog 26 #[.pointer (some ⟨b, o, none⟩), .pointer (some ⟨e, 0, none⟩)] w fun x w' => x = .returned (.tuple #[]) ∧ Mid B w w' b o e := by
  have he := hes e (by simp)
  have eb : e ≠ b := he.isB.ne hB (by decide)
  have yb : ∀ y, y ∈ p ++ e :: s → y ≠ b := fun y hy => (hes y hy).isB.ne hB (by decide)
  obtain ⟨hseg, hfr, ⟨h0, _⟩ | ⟨ht, q, r, hq, hr⟩⟩ := h
  · simp at h0
  have yq : ∀ y, y ∈ q → y ∈ p ++ e :: s := fun y hy => by rw [hq]; simp [hy]
  obtain ⟨t1, t2, t3, t4, t5⟩ := ll_ne (b := b) (o := o) (p := p ++ e :: s) yb
  obtain ⟨u1, u2, u3, u4, u5⟩ := ll_ne (b := b) (o := o) (p := q) (fun y hy => yb y (yq y hy))
  have M := forgot_mid (B := B) (e := e) hB hlow p1 p2 p4 ht hr
  have c1 := p1.get
  have c2 := p2.get
  rw [ht, ← addr_eta t4] at c1
  rw [hr, ← addr_eta u4] at c2
  rw [← addr_eta t4, ← addr_eta u4] at M
  refine (forget_any b o e _ _ _ _ (ptr w ⟨b, o + 4, none⟩) (ptr w (nxA e)) (ptr w (pvA e)) w eb ?_ ?_ ?_ ?_ ?_ he.isB.ok c1 (hB.frozen _) c2 (hB.frozen _) p4.get (hB.frozen _) he.p3.get he.p4.get).mono ?_
  · rcases t5 with ⟨g, _⟩ | ⟨g, _⟩
    · exact Or.inr (by rw [g]; exact Ne.symm eb)
    · by_cases hx : (ll ⟨b, o, none⟩ (p ++ e :: s)).block = e
      · exact Or.inl ⟨hx, g⟩
      · exact Or.inr hx
  · rcases u5 with ⟨g, _⟩ | ⟨g, _⟩
    · exact Or.inr (by rw [g]; exact Ne.symm eb)
    · by_cases hx : (ll ⟨b, o, none⟩ q).block = e
      · exact Or.inl ⟨hx, g⟩
      · exact Or.inr hx
  · rcases hfr with g | ⟨y, g1, g2⟩
    · exact Or.inl g
    · exact Or.inr ⟨y, g2, hE y g1⟩
  · rcases t5 with ⟨g, _⟩ | ⟨_, g⟩
    · rw [g]; exact hB.ok
    · exact (hes _ g).isB.ok
  · rcases u5 with ⟨g, _⟩ | ⟨_, g⟩
    · rw [g]; exact hB.ok
    · exact (hes _ (yq _ g)).isB.ok
  · rintro x w' ⟨hx, rfl⟩
    exact ⟨hx, M⟩

/-- Behind 'leave', in plain words. -/
theorem leave_pure {B : Nat} {E : Nat → Prop} {w0 w1 : World} {M' : Addr → Option Addr} {b o e : Nat} {p s : List Nat} (hm : Mid B w0 w1 b o e) (h : SlotOk E (ptr w0) b o (p ++ e :: s)) (hE : ∀ y, y ∈ p ++ e :: s → E y) (hn : (p ++ e :: s).Nodup)
    (yb : ∀ y, y ∈ p ++ e :: s → y ≠ b) (hM : ∀ X, X ≠ ll ⟨b, o, none⟩ p → X ≠ nxA e → X ≠ pvA e → (∀ f s', s = f :: s' → X ≠ pvA f) → M' X = ptr w1 X) (h1 : M' (ll ⟨b, o, none⟩ p) = hdP s)
    (h2 : ∀ f s', s = f :: s' → M' (pvA f) = some (ll ⟨b, o, none⟩ p)) : SlotOk E M' b o (p ++ s) ∧ ∀ X, Away b o e (p ++ s) X → M' X = ptr w0 X := by
  have eb := yb e (by simp)
  have hsub : ∀ y, y ∈ p ++ s → y ∈ p ++ e :: s := fun y hy => by simp at hy ⊢; rcases hy with hy | hy <;> simp [hy]
  have hne : e ∉ p ++ s := fun h => by
    have h3 := List.nodup_append.1 hn
    rcases List.mem_append.1 h with h | h
    · exact h3.2.2 e h e (by simp) rfl
    · exact (List.nodup_cons.1 h3.2.1).1 h
  obtain ⟨t1, t2, t3, t4, t5⟩ := ll_ne (b := b) (o := o) (p := p) (fun y hy => yb y (by simp [hy]))
  have cellb : ∀ j, 0 < j → M' ⟨b, o + j, none⟩ = ptr w1 ⟨b, o + j, none⟩ := fun j hj => hM _ (Ne.symm (t3 j hj)) (slot_ne eb).1 (slot_ne eb).2 (fun f s' hs => (slot_ne (yb f (by simp [hs]))).2)
  constructor
  · refine SlotOk.leave h hE hn yb h1 h2 ?_ (by rw [cellb 4 (by omega)]; exact hm.fr) (by rw [cellb 1 (by omega)]; exact hm.tl) (by rw [cellb 2 (by omega)]; exact hm.rs)
    intro X hX g1 g2
    have g3 : X ≠ nxA e ∧ X ≠ pvA e := by
      rcases hX with rfl | ⟨x, hx, rfl | rfl⟩
      · exact slot_ne (j := 0) eb
      · exact ⟨fun e' => hne (nxA_inj e' ▸ hx), nx_pv⟩
      · exact ⟨pv_nx, fun e' => hne (pvA_inj e' ▸ hx)⟩
    have g4 : ∀ j, 0 < j → X ≠ ⟨b, o + j, none⟩ := by
      intro j hj
      rcases hX with rfl | ⟨x, hx, rfl | rfl⟩
      · intro e'; have h2 : o = o + j := congrArg Addr.off e'; omega
      · exact Ne.symm (slot_ne (yb x (hsub x hx))).1
      · exact Ne.symm (slot_ne (yb x (hsub x hx))).2
    rw [hM X g1 g3.1 g3.2 g2]
    exact hm.same X (g4 1 (by omega)) (g4 2 (by omega)) (g4 4 (by omega))
  · rintro X ⟨a1, a2, a3⟩
    have g1 : ∀ j, j < 5 → X ≠ ⟨b, o + j, none⟩ := fun j hj e' => a1 (by subst e'; exact ⟨rfl, by simp, by simp; omega⟩)
    have g3 : ∀ x, X.block ≠ x → X ≠ nxA x ∧ X ≠ pvA x := fun x hx => ⟨fun e' => hx (by rw [e']; rfl), fun e' => hx (by rw [e']; rfl)⟩
    have g4 : X ≠ ll ⟨b, o, none⟩ p := fun e' => by
      rcases t5 with ⟨h1, h2⟩ | ⟨h1, h2⟩
      · exact a1 (by rw [e']; exact ⟨h1, by omega, by omega⟩)
      · exact a3 (by rw [e']; simp [h2])
    rw [hM X g4 (g3 e a2).1 (g3 e a2).2 (fun f s' hs => (g3 f (fun h => a3 (by rw [h, hs]; simp))).2)]
    exact hm.same X (g1 1 (by omega)) (g1 2 (by omega)) (g1 4 (by omega))

theorem leave_ok (B : Nat) (E : Nat → Prop) (b o e z : Nat) (p s : List Nat) (D : Nat → Nat) (w0 w : World) (hm : Mid B w0 w b o e) (hB : IsB w0 b 72 z) (hlow : B ≤ b) (p0 : Pt w0 ⟨b, o, none⟩)
    (hes : ∀ x, x ∈ p ++ e :: s → EntSt B w0 D x) (hE : ∀ y, y ∈ p ++ e :: s → E y) (hn : (p ++ e :: s).Nodup) (h : SlotOk E (ptr w0) b o (p ++ e :: s)) :
    Calls Ybad.prog 27 #[.pointer (some ⟨e, 0, none⟩)] w fun x w' => x = .returned (.tuple #[]) ∧ Ptrs B w0 w' ∧ SlotOk E (ptr w') b o (p ++ s) ∧ ptr w' (nxA e) = none ∧ ptr w' (pvA e) = none ∧
      ∀ X, Away b o e (p ++ s) X → ptr w' X = ptr w0 X := by
  have hes' : ∀ x, x ∈ p ++ e :: s → EntSt B w D x := fun x hx => (hes x hx).of_ptrs hm.p
  have hB' : IsB w b 72 z := (hm.p.isb _ _ _).2 hB
  have he := hes' e (by simp)
  have eb : e ≠ b := he.isB.ne hB' (by decide)
  have yb : ∀ y, y ∈ p ++ e :: s → y ≠ b := fun y hy => (hes' y hy).isB.ne hB' (by decide)
  have hep : e ∉ p := fun h => (List.nodup_append.1 hn).2.2 e h e (by simp) rfl
  obtain ⟨t1, t2, t3, t4, t5⟩ := ll_ne (b := b) (o := o) (p := p) (fun y hy => yb y (by simp [hy]))
  have sm : ∀ x, x ≠ b → ptr w (nxA x) = ptr w0 (nxA x) ∧ ptr w (pvA x) = ptr w0 (pvA x) := fun x hx =>
    ⟨hm.same _ (Ne.symm (slot_ne hx).1) (Ne.symm (slot_ne hx).1) (Ne.symm (slot_ne hx).1), hm.same _ (Ne.symm (slot_ne hx).2) (Ne.symm (slot_ne hx).2) (Ne.symm (slot_ne hx).2)⟩
  have v3 : ptr w (nxA e) = hdP s := (sm e eb).1.trans (Seg.nx p _ h.1)
  have v4 : ptr w (pvA e) = some (ll ⟨b, o, none⟩ p) := (sm e eb).2.trans (Seg.pv p _ h.1)
  have vT : ptr w (ll ⟨b, o, none⟩ p) = some (enA e) := (hm.same _ (t3 1 (by omega)) (t3 2 (by omega)) (t3 4 (by omega))).trans (Seg.at p _ h.1)
  have hTpt : Pt w (ll ⟨b, o, none⟩ p) := by
    rcases ll_cases ⟨b, o, none⟩ p with h | ⟨y, hy, h⟩
    · rw [h]; exact hm.p.pt _ p0
    · rw [h]; exact (hes' y (by simp [hy])).p3
  have hTB : (∃ z, IsB w (ll ⟨b, o, none⟩ p).block 72 z ∨ IsB w (ll ⟨b, o, none⟩ p).block 51 z) ∧ B ≤ (ll ⟨b, o, none⟩ p).block := by
    rcases t5 with ⟨h, _⟩ | ⟨_, h⟩
    · rw [h]; exact ⟨⟨_, Or.inl hB'⟩, hlow⟩
    · exact ⟨⟨_, Or.inr (hes' _ (by simp [h])).isB⟩, (hes' _ (by simp [h])).low⟩
  have hTe : ¬ (ll ⟨b, o, none⟩ p).block = e := by
    rcases t5 with ⟨h, _⟩ | ⟨_, h⟩
    · rw [h]; exact Ne.symm eb
    · exact fun h2 => hep (h2 ▸ h)
  have fin := fun M' => leave_pure (M' := M') hm h hE hn yb
  have tn := t2 e eb hep
  have tp := t1 e eb
  have hTf : ∀ f, f ∈ s → ¬ (ll ⟨b, o, none⟩ p).block = f := fun f hf h2 => by
    rcases t5 with ⟨h, _⟩ | ⟨_, h⟩
    · exact yb f (by simp [hf]) (h2 ▸ h)
    · exact (List.nodup_append.1 hn).2.2 _ h f (by simp [hf]) h2
  have tf : ∀ f, f ∈ s → ll ⟨b, o, none⟩ p ≠ pvA f := fun f hf => t1 f (yb f (by simp [hf]))
  generalize ll (⟨b, o, none⟩ : Addr) p = T at *
  have fT : w.frozen? T = false := by
    rw [← addr_eta t4]
    obtain ⟨⟨z, h | h⟩, _⟩ := hTB
    · exact h.frozen _
    · exact h.frozen _
  have cT := hTpt.get
  have c3 := he.p3.get
  have c4 := he.p4.get
  rw [vT, ← addr_eta t4] at cT
  rw [v4, ← addr_eta t4] at c4
  rw [v3] at c3
  rw [← addr_eta t4] at fT
  have q3 : Pt w ⟨e, 3, none⟩ := he.p3
  have q4 : Pt w ⟨e, 4, none⟩ := he.p4
  have i2 : (∃ z, IsB w e 72 z ∨ IsB w e 51 z) ∧ B ≤ e := ⟨⟨_, Or.inr he.isB⟩, he.low⟩
  cases s with
  | nil =>
    refine (leave_end e T.block T.off w hTe c3 (he.isB.frozen _) c4 (he.isB.frozen _) cT fT).mono ?_
    rw [addr_eta t4] at *
    rintro x w' ⟨hx, rfl⟩
    have P := ((Ptrs.set1 t4 hTpt none hTB).set q3 none i2).set q4 none i2
    have hM : ptr (((w.setCell T (.pointer none)).setCell ⟨e, 3, none⟩ (.pointer none)).setCell ⟨e, 4, none⟩ (.pointer none)) = updA (updA (updA (ptr w) T none) (nxA e) none) (pvA e) none :=
      ptr_set_of (ptr_set_of (ptr_set_of rfl hTpt none) (q3.set _ _) none) ((q4.set _ _).set _ _) none
    obtain ⟨f1, f2⟩ := fin (updA (updA (updA (ptr w) T none) (nxA e) none) (pvA e) none) (fun X g1 g2 g3 g4 => by rw [updA_ne g3, updA_ne g2, updA_ne g1]) (by rw [updA_ne tp, updA_ne tn, updA_eq]; rfl) (fun f s' hs => by cases hs)
    rw [← ptr_drew] at hM
    rw [← hM] at f1 f2
    exact ⟨hx, (hm.p.trans P).drew, f1, by rw [hM, updA_ne nx_pv, updA_eq], by rw [hM, updA_eq], f2⟩
  | cons f s =>
    have hf := hes' f (by simp)
    have r4 : Pt w ⟨f, 4, none⟩ := hf.p4
    have hfe : f ≠ e := fun h => (List.nodup_cons.1 (List.nodup_append.1 hn).2.1).1 (by simp [h])
    refine (leave_mid e f T.block T.off _ w hTe hfe (hTf f (by simp)) c3 (he.isB.frozen _) c4 (he.isB.frozen _) cT fT r4.get (hf.isB.frozen _)).mono ?_
    rw [addr_eta t4] at *
    rintro x w' ⟨hx, rfl⟩
    have P := (((Ptrs.set1 t4 hTpt (some ⟨f, 0, none⟩) hTB).set r4 (some T) ⟨⟨_, Or.inr hf.isB⟩, hf.low⟩).set q3 none i2).set q4 none i2
    have hM : ptr ((((w.setCell T (.pointer (some ⟨f, 0, none⟩))).setCell ⟨f, 4, none⟩ (.pointer (some T))).setCell ⟨e, 3, none⟩ (.pointer none)).setCell ⟨e, 4, none⟩ (.pointer none)) = updA (updA (updA (updA (ptr w) T (some (enA f))) (pvA f) (some T)) (nxA e) none) (pvA e) none :=
      ptr_set_of (ptr_set_of (ptr_set_of (ptr_set_of rfl hTpt _) (r4.set _ _) _) ((q3.set _ _).set _ _) none) (((q4.set _ _).set _ _).set _ _) none
    have fe4 : pvA f ≠ pvA e := fun h => hfe (pvA_inj h)
    obtain ⟨f1, f2⟩ := fin (updA (updA (updA (updA (ptr w) T (some (enA f))) (pvA f) (some T)) (nxA e) none) (pvA e) none) (fun X g1 g2 g3 g4 => by rw [updA_ne g3, updA_ne g2, updA_ne (g4 f s rfl), updA_ne g1]) (by rw [updA_ne tp, updA_ne tn, updA_ne (tf f (by simp)), updA_eq]; rfl) (fun f' s' hs => by
      cases hs
      rw [updA_ne fe4, updA_ne pv_nx, updA_eq])
    rw [← ptr_drew, ← ptr_drew] at hM
    rw [← hM] at f1 f2
    exact ⟨hx, (hm.p.trans P).drew.drew, f1, by rw [hM, updA_ne nx_pv, updA_eq], by rw [hM, updA_eq], f2⟩
end Go.Proofs.YbulkajrsDoor
