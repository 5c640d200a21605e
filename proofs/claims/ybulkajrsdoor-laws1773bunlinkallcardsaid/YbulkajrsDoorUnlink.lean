import Derived.Test.YbulkajrsDoorPut
namespace Go.Proofs.YbulkajrsDoor
open Go.RowKit
set_option linter.unusedVariables false

theorem RI.setCount {w : World} {B L N : Nat} {s : Lv} {LB HB : Nat → Option Nat} {H : Nat → Nat} {hs : Nat → Nat → Bool} (r : RI w B L N s LB HB H hs) (c : Int) : RI (w.setCell ⟨L, 71, none⟩ (.int .i64 c)) B L N { s with count := c } LB HB H hs := by
  have rk : ∀ {k ty z : Nat} {f : Nat → Value}, w.rowIs k ty z f → ty ≠ 33 → (w.setCell ⟨L, 71, none⟩ (.int .i64 c)).rowIs k ty z f := fun h a => h.setOther (a := ⟨L, 71, none⟩) ((IsB.of_row h).ne r.lv.isB a) _
  exact { r with lv := r.lv.set 71 _ (set_count s c), lrow := rk r.lrow (by decide), hrow := rk r.hrow (by decide), words := fun l b hl hb => ⟨rk (r.words l b hl hb).1 (by decide), (r.words l b hl hb).2⟩, frow := rk r.frow (by decide), arow := rk r.arow (by decide) }
theorem LI.setCount {w : World} {N n B L : Nat} {LB : Nat → Option Nat} {D : Nat → Nat} {E V : Nat → Prop} {Q : Nat → Nat → List Nat} (i : LI w N n B LB D E V Q) (hL : IsB w L 33 74) (c : Int) : LI (w.setCell ⟨L, 71, none⟩ (.int .i64 c)) N n B LB D E V Q :=
  i.of_blocks (fun k t z hk ht => heap_setCell_other _ _ _ _ (hk.ne hL (by rcases ht with rfl | rfl <;> decide)))
theorem KeepW.setL {w : World} {B L : Nat} (hL : IsB w L 33 74) (hB : B ≤ L) (v : Value) : KeepW B w (w.setCell ⟨L, 71, none⟩ v) :=
  ⟨rfl, rfl, rfl, by simp [World.setCell], fun k hk => heap_setCell_other _ _ _ _ (by show k ≠ L; omega), fun k z hk => heap_setCell_other _ _ _ _ (hk.ne hL (by decide))⟩

theorem Wh.count {w : World} {B L N n : Nat} {c : Int} {D : Nat → Nat} {E V : Nat → Prop} (h : Wh w B L N n c D E V) : w.cell? ⟨L, 71, none⟩ = some (.int .i64 c) ∧ w.frozen? ⟨L, 71, none⟩ = false := by
  obtain ⟨s, LB, HB, H, Q, hn, hc, r, i⟩ := h
  exact ⟨by rw [← hc]; exact r.lv.count, r.lv.frozen _⟩
theorem Wh.setCount {w : World} {B L N n : Nat} {c : Int} {D : Nat → Nat} {E V : Nat → Prop} (h : Wh w B L N n c D E V) (c' : Int) : Wh (w.setCell ⟨L, 71, none⟩ (.int .i64 c')) B L N n c' D E V ∧ KeepW B w (w.setCell ⟨L, 71, none⟩ (.int .i64 c')) := by
  obtain ⟨s, LB, HB, H, Q, hn, hc, r, i⟩ := h
  exact ⟨⟨{ s with count := c' }, LB, HB, H, Q, hn, rfl, r.setCount c', i.setCount r.lv.isB c'⟩, KeepW.setL r.lv.isB r.bL _⟩

set_option maxHeartbeats 1000000 in
theorem add_ok {w : World} {B L N n : Nat} {c : Int} {D : Nat → Nat} {E V : Nat → Prop} (h : Wh w B L N n c D E V) (hg : GoodN N) (hN : N ≤ 64) {e l : Nat} (he : E e) (hv : ¬ V e) (hd1 : 1 ≤ D e) (hd : D e < 18446744073709551616) (hlev : IsLev N (D e) l) (hl : l < n) (hc0 : 0 ≤ c) (hc1 : c ≤ 1000) :
    Calls Ybad.prog 13 #[.pointer (some ⟨L, 0, none⟩), .pointer (some ⟨e, 0, none⟩)] w fun x w' => x = .returned (.tuple #[]) ∧ Wh w' B L N n (c + 1) D E (fun x => V x ∨ x = e) ∧ KeepW B w w' := by
  have CP : Hid (Calls Ybad.prog 23 #[.pointer (some ⟨L, 0, none⟩), .pointer (some ⟨e, 0, none⟩)] w fun x w' => x = .returned (.tuple #[]) ∧ Wh w' B L N n c D E (fun x => V x ∨ x = e) ∧ KeepW B w w') := put_ok h hg hN he hv hd1 hd hlev hl
  clear hlev h
  go_enter Ybad.func13, Ybad.ntmps13
  go_wp2_with fail
  refine CP.out.mono ?_
  rintro x W ⟨rfl, hW, kW⟩
  obtain ⟨c71, f71⟩ := hW.count
  have FIN : Hid (Wh (W.setCell ⟨L, 71, none⟩ (.int .i64 (c + 1))) B L N n (c + 1) D E (fun x => V x ∨ x = e) ∧ KeepW B w (W.setCell ⟨L, 71, none⟩ (.int .i64 (c + 1)))) := ⟨(hW.setCount (c + 1)).1, kW.trans (hW.setCount (c + 1)).2⟩
  clear hW kW
  go_wp2
  go_end0
  exact ⟨rfl, FIN.out⟩

theorem staged_nil (L l n ba st : Nat) (w : World) (hl : l < n) (hn : n ≤ 64) (hst : st < 18446744073709551616) (c1 : w.cell? ⟨L, 73, none⟩ = some (.slice (some ⟨ba, 0, none⟩) n n)) (c2 : w.cell? ⟨ba, l, none⟩ = some (.pointer none)) :
    Calls Ybad.prog 25 #[.pointer (some ⟨L, 0, none⟩), .int .i64 l, .int .u64 st] w fun x w' => x = .returned (.pointer none) ∧ w' = w := by
  by_cases h0 : l = 0
  · have t0 : ((l : Int) == 0) = true := beq_iff_eq.2 (by omega)
    clear h0
    go_enter Ybad.func25, Ybad.ntmps25
    go_wp2
    go_ret
    exact ⟨rfl, rfl⟩
  · have t0 : ((l : Int) == 0) = false := beq_eq_false_iff_ne.2 (by omega)
    clear h0
    go_enter Ybad.func25, Ybad.ntmps25
    go_wp2
    go_ret
    exact ⟨rfl, rfl⟩

/-- Another entry shares the slot. -/
def Shares (N : Nat) (D : Nat → Nat) (V : Nat → Prop) (l t : Nat) : Prop := ∃ x, V x ∧ IsLev N (D x) l ∧ D x / N ^ l = t

theorem shares_nil {w : World} {N n B : Nat} {LB : Nat → Option Nat} {D : Nat → Nat} {E V : Nat → Prop} {Q : Nat → Nat → List Nat} (i : LI w N n B LB D E V Q) (l t : Nat) : Shares N D V l t ↔ Q l t ≠ [] := by
  constructor
  · rintro ⟨x, hx⟩ h
    have := (i.mem l t x).2 hx
    rw [h] at this; simp at this
  · intro h
    obtain ⟨x, hx⟩ := List.exists_mem_of_ne_nil _ h
    exact ⟨x, (i.mem l t x).1 hx⟩

theorem holds_wh {w : World} {B L N n : Nat} {c : Int} {D : Nat → Nat} {E V : Nat → Prop} (h : Wh w B L N n c D E V) (hN : N ≤ 64) {l t : Nat} (hl : l < n) (ht : t < N) :
    Calls Ybad.prog 10 #[.pointer (some ⟨L, 0, none⟩), .int .i64 l, .int .u64 t] w fun x w' => (∃ b : Bool, x = .returned (.bool b) ∧ (b = true ↔ Shares N D V l t)) ∧ w' = w := by
  obtain ⟨s, LB, HB, H, Q, hn, hc, r, i⟩ := h
  have n64 := r.n64
  have hls : l < s.n := by omega
  have c2 := r.hrow.cell hls
  have sh := shares_nil i l t
  cases hb : HB l with
  | none =>
    rw [hb] at c2
    refine (holds_nil L s.bh s.n l t w hls n64 (by omega) r.lv.held c2).mono ?_
    rintro x w' ⟨hx, hw⟩
    refine ⟨⟨false, hx, ?_⟩, hw⟩
    rw [sh, i.nil l t hl ((r.same l hls).2 hb)]; simp
  | some b =>
    rw [hb] at c2
    obtain ⟨wr, wB⟩ := r.words l b hls hb
    have c3 := wr.cell (i := 0) (by omega)
    have t0 : t / 64 = 0 := by omega
    rw [← t0] at c3
    refine (holds_any L s.bh b s.n 1 l t (H l) w hls n64 (by omega) (by omega) (by omega) (r.lt l) r.lv.held c2 c3).mono ?_
    rintro x w' ⟨hx, hw⟩
    refine ⟨⟨_, hx, ?_⟩, hw⟩
    rw [show t % 64 = t by omega, r.bit l t hls ht (by rw [hb]; simp), sh]
    unfold hsOf
    cases Q l t <;> simp

theorem busy_wh {w : World} {B L N n : Nat} {c : Int} {D : Nat → Nat} {E V : Nat → Prop} (h : Wh w B L N n c D E V) (hV : ∀ x, ¬ V x) : w.cell? ⟨L, 69, none⟩ = some (.int .u64 0) := by
  obtain ⟨s, LB, HB, H, Q, hn, hc, r, i⟩ := h
  have hb : s.busy = 0 := by
    refine zero_of_bits _ r.blt (fun l hl => ?_)
    cases hx : s.busy.testBit l with
    | false => rfl
    | true =>
      have := (r.busy l hl).1 hx
      refine absurd ((cnt_zero N).2 (fun t ht => ?_)) this.2
      unfold hsOf
      have : Q l t = [] := Classical.byContradiction fun h => by
        obtain ⟨x, hx, _⟩ := (shares_nil i l t).2 h
        exact hV x hx
      rw [this]; rfl
  have := r.lv.busy
  rw [hb] at this
  exact this

theorem Wh.free {w : World} {B L N n : Nat} {c : Int} {D : Nat → Nat} {E V : Nat → Prop} (h : Wh w B L N n c D E V) {e : Nat} (he : E e) (hv : ¬ V e) : w.cell? ⟨e, 3, none⟩ = some (.pointer none) ∧ w.cell? ⟨e, 4, none⟩ = some (.pointer none) := by
  obtain ⟨s, LB, HB, H, Q, hn, hc, r, i⟩ := h
  have g := i.free e he hv
  have h3 := (i.ent e he).p3.get
  have h4 := (i.ent e he).p4.get
  rw [g.1] at h3
  rw [g.2] at h4
  exact ⟨h3, h4⟩
theorem Wh.due {w : World} {B L N n : Nat} {c : Int} {D : Nat → Nat} {E V : Nat → Prop} (h : Wh w B L N n c D E V) {e : Nat} (he : E e) : w.cell? ⟨e, 2, none⟩ = some (.int .u64 (D e)) := by
  obtain ⟨s, LB, HB, H, Q, hn, hc, r, i⟩ := h
  exact (i.ent e he).due
theorem Wh.drewN {w : World} {B L N n : Nat} {c : Int} {D : Nat → Nat} {E V : Nat → Prop} (h : Wh w B L N n c D E V) (m : Nat) : Wh (w.drewN m) B L N n c D E V := by
  obtain ⟨s, LB, HB, H, Q, hn, hc, r, i⟩ := h
  exact ⟨s, LB, HB, H, Q, hn, hc, r.drewN m, i.drewN m⟩

def UnPS (w : World) (B L N n l t e : Nat) (s : Lv) (LB : Nat → Option Nat) (D : Nat → Nat) (E V : Nat → Prop) (Q : Nat → Nat → List Nat) (es : List Nat) (X : World) : Prop :=
  KeepW B w X ∧ ∃ HB H, RI X B L N s LB HB H (hsOf Q) ∧ LI X N n B LB D E (fun x => V x ∧ x ≠ e) (updQ Q l t es)

def UnlinkPost (w : World) (B L N n l e : Nat) (c : Int) (D : Nat → Nat) (E V : Nat → Prop) (x : Ending) (w' : World) : Prop :=
  ∃ b : Bool, x = .returned (.tuple #[.int .u64 ((D e / N ^ l * N ^ l : Nat) : Int), .bool b]) ∧ (b = true ↔ ¬ Shares N D (fun x => V x ∧ x ≠ e) l (D e / N ^ l)) ∧ Wh w' B L N n (c - 1) D E (fun x => V x ∧ x ≠ e) ∧ KeepW B w w'

set_option maxHeartbeats 8000000 in
set_option maxRecDepth 100000 in
theorem unlink_ok {w : World} {B L N n : Nat} {c : Int} {D : Nat → Nat} {E V : Nat → Prop} (h : Wh w B L N n c D E V) (hg : GoodN N) (hN : N ≤ 64) {e l : Nat} (hv : V e) (hd1 : 1 ≤ D e) (hd : D e < 18446744073709551616) (hlev : IsLev N (D e) l) (hl : l < n) (hc0 : 0 ≤ c) (hc1 : c ≤ 1000) :
    Calls Ybad.prog 14 #[.pointer (some ⟨L, 0, none⟩), .pointer (some ⟨e, 0, none⟩)] w (UnlinkPost w B L N n l e c D E V) := by
  obtain ⟨s, LB, HB, H, Q, hn, hc, r, i⟩ := h
  obtain ⟨hN2, _⟩ := hg.bounds
  have n64 : n ≤ 64 := by have := r.n64; omega
  have he := i.ev e hv
  have CS : Hid (Calls Ybad.prog 24 #[.pointer (some ⟨L, 0, none⟩), .int .u64 (D e)] w fun x w' => x = .returned (.tuple #[.int .i64 l, .int .u64 ((D e / N ^ l : Nat) : Int), .int .u64 ((D e / N ^ l * N ^ l : Nat) : Int)]) ∧ ∃ m, w' = w.drewN m) :=
    slot_any L N (D e) l s w hg hd1 hd hlev r.lv r.e0 r.e1 r.e2 r.e3
  have hstlt : D e / N ^ l * N ^ l < 18446744073709551616 := Nat.lt_of_le_of_lt (Nat.div_mul_le_self _ _) hd
  unfold UnlinkPost
  obtain ⟨t, hdig⟩ : ∃ t, D e / N ^ l = t := ⟨_, rfl⟩
  have ht : t < N := by rw [← hdig]; exact (hlev.digit hN2).2
  rw [hdig] at CS hstlt ⊢
  obtain ⟨st, hst0⟩ : ∃ st, t * N ^ l = st := ⟨_, rfl⟩
  rw [hst0] at CS hstlt ⊢
  have hin : e ∈ Q l t := (i.mem l t e).2 ⟨hv, hlev, hdig⟩
  obtain ⟨p, q, hq⟩ := List.append_of_mem hin
  have hbl : LB l ≠ none := fun h => by rw [i.nil l t hl h] at hin; simp at hin
  obtain ⟨b, hb⟩ := Option.ne_none_iff_exists'.1 hbl
  have hhs : hsOf Q l t = true := by unfold hsOf; rw [hq]; cases p <;> rfl
  have FORG : Hid (∀ X, RI X B L N s LB HB H (hsOf Q) → LI X N n B LB D E V Q → Calls Ybad.prog 26 #[.pointer (some ⟨b, t * 5, none⟩), .pointer (some ⟨e, 0, none⟩)] X (fun x X' => x = .returned (.tuple #[]) ∧ Hid (Mid B X X' b (t * 5) e))) := by
    intro X r i
    obtain ⟨st, low⟩ := i.slot l b hl hb
    have hok := i.ok l b t hl hb ht
    rw [hq] at hok
    exact forget_ok B E b (t * 5) e _ p q D X st.isB low (st.pt t 1 ht (by omega) (by omega)) (st.pt t 2 ht (by omega) (by omega)) (st.pt t 4 ht (by omega) (by omega))
      (fun x hx => i.ent x (i.ev x ((i.mem l t x).1 (by rw [hq]; exact hx)).1)) (fun x hx => (i.ent x hx).isB.ok) hok
  have LEAVE : Hid (∀ X X', RI X B L N s LB HB H (hsOf Q) → LI X N n B LB D E V Q → KeepW B w X → Hid (Mid B X X' b (t * 5) e) → Calls Ybad.prog 27 #[.pointer (some ⟨e, 0, none⟩)] X' (fun x X'' => x = .returned (.tuple #[]) ∧ Hid (UnPS w B L N n l t e s LB D E V Q (p ++ q) X''))) := by
    intro X X' r i k hm
    obtain ⟨st, low⟩ := i.slot l b hl hb
    have hok := i.ok l b t hl hb ht
    have hnd := i.nd l t
    rw [hq] at hok hnd
    have hE : ∀ x, x ∈ p ++ e :: q → E x := fun x hx => i.ev x ((i.mem l t x).1 (by rw [hq]; exact hx)).1
    refine (leave_ok B E b (t * 5) e _ p q D X X' hm.out st.isB low (st.pt t 0 ht (by omega) (by omega)) (fun x hx => i.ent x (hE x hx)) hE hnd hok).mono ?_
    rintro x X'' ⟨hx, P, hs, h3, h4, fr⟩
    exact ⟨hx, k.trans P.keep, HB, H, r.of_blocks P.blocks, i.leave hN2 hl hb ht P hq hs h3 h4 fr⟩
  have C2 := (i.ent e he).due
  have R0 : Hid (RI w B L N s LB HB H (hsOf Q)) := r
  have I0 : Hid (LI w N n B LB D E V Q) := i
  have HQ : Hid (Q l t = p ++ e :: q ∧ LB l = some b ∧ IsLev N (D e) l ∧ hsOf Q l t = true) := ⟨hq, hb, hlev, hhs⟩
  clear r i hlev hdig hst0 hin hq hbl hb hhs
  go_enter Ybad.func14, Ybad.ntmps14
  go_wp2_with fail
  refine CS.out.mono ?_
  rintro x W ⟨rfl, m, hW⟩
  have rW : Hid (RI W B L N s LB HB H (hsOf Q)) := by rw [hW]; exact R0.out.drewN m
  have iW : Hid (LI W N n B LB D E V Q) := by rw [hW]; exact I0.out.drewN m
  have kW : Hid (KeepW B w W) := by rw [hW]; exact (KeepW.refl B w).drewN m
  clear hW C2 R0 I0 CS
  have W66 : W.cell? ⟨L, 66, none⟩ = some (.slice (some ⟨s.bl, 0, none⟩) n n) := by rw [← hn]; exact rW.out.lv.level
  have W2 : W.cell? ⟨e, 2, none⟩ = some (.int .u64 (D e)) := (iW.out.ent e he).due
  have Wl : W.cell? ⟨s.bl, l, none⟩ = some (.slice (some ⟨b, 0, none⟩) N N) := by have := rW.out.lrow.cell (i := l) (by omega); rw [HQ.out.2.1] at this; exact this
  have CST : Hid (Calls Ybad.prog 25 #[.pointer (some ⟨L, 0, none⟩), .int .i64 l, .int .u64 st] W fun x w' => x = .returned (.pointer none) ∧ w' = W) :=
    staged_nil L l n s.ba st W hl n64 hstlt (by rw [← hn]; exact rW.out.lv.ahead) (rW.out.arow.cell (by omega))
  go_wp2_with fail
  refine CST.out.mono ?_
  rintro x W1 ⟨rfl, rfl⟩
  go_wp2_with fail
  refine (FORG.out _ rW.out iW.out).mono ?_
  rintro x X ⟨rfl, hM⟩
  go_wp2_with fail
  refine (LEAVE.out _ _ rW.out iW.out kW.out hM).mono ?_
  rintro x Y ⟨rfl, hU⟩
  clear hM W66 W2 Wl CST rW iW kW FORG LEAVE
  obtain ⟨kY0, HB', H', rY0, iY0⟩ := hU.out
  have kY : Hid (KeepW B w Y) := kY0
  have rY : Hid (RI Y B L N s LB HB' H' (hsOf Q)) := rY0
  have iY : Hid (LI Y N n B LB D E (fun x => V x ∧ x ≠ e) (updQ Q l t (p ++ q))) := iY0
  clear kY0 rY0 iY0 hU
  have Y71 : Y.cell? ⟨L, 71, none⟩ = some (.int .i64 c) := by rw [← hc]; exact rY.out.lv.count
  have F71 := rY.out.lv.frozen 71
  have stY := (iY.out.slot l b hl HQ.out.2.1).1
  have bL : ¬ b = L := stY.isB.ne rY.out.lv.isB (by decide)
  have hY := (stY.pt t 0 ht (by omega) (by omega)).get
  have hh : ptr Y ⟨b, t * 5 + 0, none⟩ = hdP (p ++ q) := by
    have h0 := (iY.out.ok l b t hl HQ.out.2.1 ht).1
    rw [updQ_same] at h0
    exact Seg.at (s := p ++ q) [] _ h0
  rw [hh] at hY
  clear hh stY
  have hY' : Y.cell? ⟨b, t * 5, none⟩ = some (.pointer (hdP (p ++ q))) := hY
  have SH : Hid (Shares N D (fun x => V x ∧ x ≠ e) l t ↔ p ++ q ≠ []) := by
    have := shares_nil iY.out l t
    rw [updQ_same] at this
    exact this
  have rZ : Hid (RI (Y.setCell ⟨L, 71, none⟩ (.int .i64 (c - 1))) B L N { s with count := c - 1 } LB HB' H' (hsOf Q)) := rY.out.setCount (c - 1)
  have iZ : Hid (LI (Y.setCell ⟨L, 71, none⟩ (.int .i64 (c - 1))) N n B LB D E (fun x => V x ∧ x ≠ e) (updQ Q l t (p ++ q))) := iY.out.setCount rY.out.lv.isB (c - 1)
  have kZ : Hid (KeepW B w (Y.setCell ⟨L, 71, none⟩ (.int .i64 (c - 1)))) := kY.out.trans (KeepW.setL rY.out.lv.isB rY.out.bL _)
  clear hY rY iY kY
  by_cases hpq : p ++ q = []
  · rw [hpq] at hY' SH iZ
    have hY2 : Y.cell? ⟨b, t * 5, none⟩ = some (.pointer none) := hY'
    have CH : Hid (Calls Ybad.prog 17 #[.pointer (some ⟨L, 0, none⟩), .int .i64 l, .int .u64 t, .bool false] (Y.setCell ⟨L, 71, none⟩ (.int .i64 (c - 1))) (fun x Z => x = .returned (.tuple #[]) ∧ Hid (Wh Z B L N n (c - 1) D E (fun x => V x ∧ x ≠ e) ∧ KeepW B w Z))) := by
      refine (hold_off rZ.out l t (by show l < s.n; omega) ht hN HQ.out.2.2.2).mono ?_
      rintro x Z ⟨hx, ⟨busy', H'', r'⟩, k'⟩
      refine ⟨hx, ⟨{ s with count := c - 1, busy := busy' }, LB, HB', H'', _, hn, rfl, ?_, iZ.out.of_blocks (fun k t z hk ht => k'.typ k t z hk (by rcases ht with h | h <;> simp [h]))⟩, kZ.out.trans k'.keep⟩
      rw [hsOf_upd]; exact r'
    clear hY' hpq rZ iZ kZ
    go_wp2_with fail
    refine CH.out.mono ?_
    rintro x Z ⟨rfl, hF⟩
    go_wp2
    go_ret2
    exact ⟨true, rfl, by simp only [true_iff]; rw [SH.out]; simp, hF.out⟩
  · have FIN : Hid (Wh (Y.setCell ⟨L, 71, none⟩ (.int .i64 (c - 1))) B L N n (c - 1) D E (fun x => V x ∧ x ≠ e) ∧ KeepW B w (Y.setCell ⟨L, 71, none⟩ (.int .i64 (c - 1)))) := by
      refine ⟨⟨{ s with count := c - 1 }, LB, HB', H', _, hn, rfl, ?_, iZ.out⟩, kZ.out⟩
      rw [hsOf_upd, upd2_id]
      · exact rZ.out
      · rw [HQ.out.2.2.2]
        cases hx : p ++ q with
        | nil => exact absurd hx hpq
        | cons f r => rfl
    obtain ⟨f, fs, hf⟩ := List.exists_cons_of_ne_nil hpq
    have SH2 : Hid (p ++ q ≠ []) := hpq
    rw [hf] at hY'
    have hY2 : Y.cell? ⟨b, t * 5, none⟩ = some (.pointer (some ⟨f, 0, none⟩)) := hY'
    clear hY' hpq rZ iZ kZ hf
    go_wp2
    go_ret2
    exact ⟨false, rfl, by rw [SH.out]; simp [SH2.out], FIN.out⟩
end Go.Proofs.YbulkajrsDoor
