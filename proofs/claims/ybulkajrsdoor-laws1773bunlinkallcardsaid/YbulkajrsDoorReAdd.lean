import Derived.Test.YbulkajrsDoorStart
namespace Go.Proofs.YbulkajrsDoor
open Go.RowKit
set_option linter.unusedVariables false

/-- A Bool says it. -/
def ShIs (b : Bool) (p : Prop) : Prop := b = true ↔ p
theorem bool_not {b sh : Bool} (h : b = true ↔ ¬ sh = true) : b = !sh := by
  cases b <;> cases sh <;> simp_all
theorem bool_same {b sh : Bool} {p : Prop} (h : b = true ↔ p) (g : sh = true ↔ p) : b = sh := by
  cases b <;> cases sh <;> simp_all

theorem Wh.ok {w : World} {B L N n : Nat} {c : Int} {D : Nat → Nat} {E V : Nat → Prop} (h : Wh w B L N n c D E V) {e : Nat} (he : E e) : okB w e = true := by
  obtain ⟨s, LB, HB, H, Q, hn, hc, r, i⟩ := h
  exact (i.ent e he).isB.ok

set_option maxHeartbeats 8000000 in
set_option maxRecDepth 100000 in
theorem readd_in (a0 : Int) (N n cap1 sel : Nat) (a1 : Option Addr) (DS : Nat → Nat) (w : World) (h0 : 0 ≤ a0) (h1 : a0 ≤ 255) (hN : slotsB a0 = N) (hg : GoodN N) (hN64 : N ≤ 64) (hsel : sel ≤ 255) (hn : n ≤ 300) (hn0 : 1 ≤ n)
    (hTab : TabAt w) (hz : 0 < w.heap.size)
    (hc1 : 0 < n → ∃ b off, a1 = some ⟨b, off, none⟩ ∧ b < w.heap.size ∧ ∀ j, j < n → w.cell? ⟨b, off + j, none⟩ = some (.int .u64 (DS j))) (hDS : ∀ j, DS j ≤ 18446744073709551615) :
    Calls Ybad.prog 6 #[.int .u8 a0, .slice a1 n cap1, .int .u8 sel] w fun e w' => e = .returned (.bool true) ∧ Below w.heap.size w w' := by
  obtain ⟨hN2, hN100⟩ := hg.bounds
  have CB : Hid (Calls Ybad.prog 11 #[.int .u8 a0] w fun e w' => e = .returned (.int .u64 N) ∧ Below w.heap.size w w') := by rw [← hN]; exact bslots_any a0 h0 h1 w
  obtain ⟨b1, o1, rfl, hb1, hc⟩ := hc1 (by omega)
  have C1 : Hid (∀ j, j < n → w.cell? ⟨b1, o1 + j, none⟩ = some (.int .u64 (DS j))) := hc
  have HDS : Hid (∀ j, DS j ≤ 18446744073709551615) := hDS
  have HTab : Hid (TabAt w) := hTab
  have HG : Hid (GoodN N) := hg
  have hmk := run_make_row' (P := Ybad.prog) 44 45 (.pointer none) 8 Ybad.under44 Ybad.info45 rfl .i64 .i64 n (by omega) (by omega)
  have t300 : decide ((300 : Int) < (n : Int)) = false := by simp; omega
  have t0 : ((n : Int) == 0) = false := beq_eq_false_iff_ne.2 (by omega)
  have hbd := Ybad.build51
  clear hc1 hc hDS hTab hg hN
  go_enter Ybad.func6, Ybad.ntmps6
  go_wp2_with fail
  refine CB.out.mono ?_
  rintro x W0 ⟨rfl, bel0⟩
  have B0 : Hid (Below w.heap.size w W0) := bel0
  clear bel0 CB
  go_wp2_with fail
  obtain ⟨BE, hBE⟩ : ∃ BE, W0.heap.size = BE := ⟨_, rfl⟩
  have CR0 := Crt.start W0 n (dueOf DS)
  rw [hBE] at CR0
  go_loopw [10, 44] (fun lv iv wr => ∃ i last : Nat, i ≤ n ∧ lv = .int .u64 last ∧ iv = .int .i64 i ∧ Hid (Crt W0 wr BE n i last (dueOf DS))) (fun _ iv _ => n - (intOf iv).toNat)
  case atStart => exact ⟨0, 1, by omega, rfl, rfl, CR0⟩
  case round =>
    obtain ⟨i, last, hi, rfl, rfl, hC⟩ := hrel
    clear CR0
    by_cases hlt : i < n
    · have x1 : wr.cell? ⟨b1, o1 + i, none⟩ = some (.int .u64 (DS i)) := (hC.out.bel.cell (p := ⟨b1, o1 + i, none⟩) (by show b1 < BE; have := B0.out.size; omega)).trans ((B0.out.cell (p := ⟨b1, o1 + i, none⟩) hb1).trans (C1.out i hlt))
      have HSZ : Hid (wr.heap.size = BE + 1 + i) := hC.out.size
      have hBl : BE < wr.heap.size := by have := HSZ.out; omega
      have rc := hC.out.row.cell hlt
      rw [if_neg (by omega)] at rc
      have rf := hC.out.row.frozen i
      have y1 := HDS.out i
      have l1 := hC.out.l1
      have l2 := hC.out.l2
      by_cases hd0 : DS i = 0
      · have td : ((DS i : Int) == 0) = true := beq_iff_eq.2 (by omega)
        have tl : decide ((last : Int) < 1) = false := by simp; omega
        have FIN : Hid (Crt W0 ((wr.setCell ⟨BE, i, none⟩ (.pointer (some ⟨wr.heap.size, 0, none⟩))).alloc (.cells (entCells 1) 51)) BE n (i + 1) last (dueOf DS)) := by
          have e1 : dueOf DS i = 1 := by unfold dueOf; rw [if_pos hd0]
          have := hC.out.step hlt last (Nat.le_refl _) (by omega) l2
          rw [e1, ← HSZ.out] at this
          exact this
        clear hd0
        go_wp2
        go_roundw
        case rel => exact ⟨i + 1, last, by omega, rfl, by go_num, FIN⟩
        case measure => simp [intOf]; omega
      · have td : ((DS i : Int) == 0) = false := beq_eq_false_iff_ne.2 (by omega)
        have e1 : dueOf DS i = DS i := by unfold dueOf; rw [if_neg hd0]
        by_cases hll : last < DS i
        · have tl : decide (last < DS i) = true := decide_eq_true hll
          have FIN : Hid (Crt W0 ((wr.setCell ⟨BE, i, none⟩ (.pointer (some ⟨wr.heap.size, 0, none⟩))).alloc (.cells (entCells (DS i)) 51)) BE n (i + 1) (DS i) (dueOf DS)) := by
            have := hC.out.step hlt (DS i) (by omega) (by omega) (by omega)
            rw [e1, ← HSZ.out] at this
            exact this
          clear hd0 e1 hll
          go_wp2
          go_roundw
          case rel => exact ⟨i + 1, DS i, by omega, rfl, by go_num, FIN⟩
          case measure => simp [intOf]; omega
        · have tl : decide (last < DS i) = false := decide_eq_false hll
          have FIN : Hid (Crt W0 ((wr.setCell ⟨BE, i, none⟩ (.pointer (some ⟨wr.heap.size, 0, none⟩))).alloc (.cells (entCells (DS i)) 51)) BE n (i + 1) last (dueOf DS)) := by
            have := hC.out.step hlt last (by omega) (by omega) l2
            rw [e1, ← HSZ.out] at this
            exact this
          clear hd0 e1 hll
          go_wp2
          go_roundw
          case rel => exact ⟨i + 1, last, by omega, rfl, by go_num, FIN⟩
          case measure => simp [intOf]; omega
    · have hin : i = n := by omega
      have HC : Hid (Crt W0 wr BE n n last (dueOf DS)) := by rw [← hin]; rw [hin] at hC ⊢; exact hC
      have HBE : Hid (w.heap.size ≤ BE) := by show _ ≤ BE; have := B0.out.size; omega
      have hz2 : 0 < wr.heap.size := by have := HC.out.size; omega
      have belr : Below w.heap.size w wr := B0.out.trans (HC.out.bel.mono HBE.out)
      have CN : Hid (Calls Ybad.prog 12 #[.int .i64 N, .int .u64 last] wr (NewPost N last wr (lvN N))) := new_any N last HG.out HC.out.l2 wr (HTab.out.below belr hz) hz2
      have lN : last < 18446744073709551616 := HC.out.l2
      clear hC belr
      go_wp2_with fail
      refine CN.out.mono ?_
      rintro e w1 ⟨n', bl, bh, bf, ba, rfl, hpow, hn1, hn64, r73, r34, r3, r74, gl, gh, gf, ga, hb1'⟩
      have RR : Hid (w1.rowIs bl 73 n' (fun _ => .slice none 0 0) ∧ w1.rowIs bh 34 n' (fun _ => .slice none 0 0) ∧ w1.rowIs bf 3 n' (fun _ => .int .i64 0) ∧ w1.rowIs ba 74 n' (fun _ => .pointer none) ∧ wr.heap.size ≤ bl ∧ wr.heap.size ≤ bh ∧ wr.heap.size ≤ bf ∧ wr.heap.size ≤ ba ∧ Below wr.heap.size wr w1) := ⟨r73, r34, r3, r74, gl, gh, gf, ga, hb1'⟩
      have HPOW : Hid (last < N ^ n') := hpow
      clear r73 r34 r3 r74 gl gh gf ga hb1' hpow
      go_wp2_with ((refine wpList_newvar33 rfl rfl 13 rfl rfl (.tmp 65) rfl rfl (lvN N n' bl bh bf ba) rfl rfl ?_; intro L W2 hL hLv hsz2 hb2))
      obtain ⟨q1, q2, q3, q4, q5, q6, q7, q8, q9⟩ := RR.out
      have ST := wh_start HC.out HBE.out B0.out hn64 q1 q2 q3 q4 q5 q6 q7 q8 q9 hL hLv hb2
      have ST1 : Hid (Wh W2 w.heap.size L N n' 0 (entD (dueOf DS) BE) (entE BE n) (fun x => entE BE n x ∧ x < BE + 1 + 0)) := ST.1
      have BW2 : Hid (Below w.heap.size w W2) := ST.2.1
      have ROW : Hid (W2.rowIs BE 45 n (fun j => .pointer (some ⟨BE + 1 + j, 0, none⟩))) := ST.2.2
      have LEV : Hid (∀ j, j < n → 1 ≤ dueOf DS j ∧ dueOf DS j < 18446744073709551616 ∧ ∃ l, l < n' ∧ IsLev N (dueOf DS j) l) := by
        intro j hj
        have g1 : 1 ≤ dueOf DS j := by unfold dueOf; split <;> omega
        have g2 := HC.out.l3 j hj
        exact ⟨g1, by omega, lev_ex N hN2 _ g1 n' (Nat.lt_of_le_of_lt g2 HPOW.out)⟩
      clear q1 q2 q3 q4 q5 q6 q7 q8 q9 RR ST hL hLv hsz2 hb2 HC HPOW CN hin hlt
      go_loopw [68] (fun v wr => ∃ i : Nat, i ≤ n ∧ v = .int .i64 i ∧ Hid (Wh wr w.heap.size L N n' i (entD (dueOf DS) BE) (entE BE n) (fun x => entE BE n x ∧ x < BE + 1 + i)) ∧ Hid (KeepW w.heap.size W2 wr)) (fun v _ => n - (intOf v).toNat)
      case atStart => exact ⟨0, by omega, rfl, ST1, KeepW.refl _ _⟩
      case round =>
        obtain ⟨i, hi, rfl, hWh, hK⟩ := hrel
        clear ST1
        by_cases hlt : i < n
        · have x1 : wr.cell? ⟨BE, i, none⟩ = some (.pointer (some ⟨BE + 1 + i, 0, none⟩)) := (ROW.out.of_block (hK.out.typ _ _ (IsB.of_row ROW.out))).cell hlt
          obtain ⟨g1, g2, l, g3, g4⟩ := LEV.out i hlt
          have CA : Hid (Calls Ybad.prog 13 #[.pointer (some ⟨L, 0, none⟩), .pointer (some ⟨BE + 1 + i, 0, none⟩)] wr fun x w' => x = .returned (.tuple #[]) ∧ Wh w' w.heap.size L N n' ((i : Int) + 1) (entD (dueOf DS) BE) (entE BE n) (fun x => (entE BE n x ∧ x < BE + 1 + i) ∨ x = BE + 1 + i) ∧ KeepW w.heap.size wr w') := by
            refine add_ok hWh.out HG.out hN64 (l := l) ⟨by omega, by omega⟩ (fun h => by have := h.2; omega) ?_ ?_ ?_ g3 (by omega) (by omega)
            · rw [entD_at]; exact g1
            · rw [entD_at]; exact g2
            · rw [entD_at]; exact g4
          clear g1 g2 g3 g4
          go_wp2_with fail
          refine CA.out.mono ?_
          rintro x W3 ⟨rfl, hW3, k3⟩
          have F1 : Hid (Wh W3 w.heap.size L N n' ((i + 1 : Nat) : Int) (entD (dueOf DS) BE) (entE BE n) (fun x => entE BE n x ∧ x < BE + 1 + (i + 1))) := by
            refine Wh.cv hW3 (fun x => ?_)
            unfold entE
            omega
          have F2 : Hid (KeepW w.heap.size W2 W3) := hK.out.trans k3
          clear hW3 k3 x1 CA
          go_wp2
          go_roundw
          case rel => exact ⟨i + 1, by omega, by go_num, F1, F2⟩
          case measure => simp [intOf]; omega
        · have hin : i = n := by omega
          obtain ⟨k, hk⟩ : ∃ k, sel % n = k := ⟨_, rfl⟩
          have hkn : k < n := by rw [← hk]; exact Nat.mod_lt _ (by omega)
          have z1 : ((sel : Int) % (n : Int)) = (k : Int) := by rw [← hk]; simp
          have hV : Hid (Wh wr w.heap.size L N n' n (entD (dueOf DS) BE) (entE BE n) (entE BE n)) := by
            rw [hin] at hWh
            exact Wh.cv hWh.out (fun x => by unfold entE; omega)
          have ROW2 : Hid (wr.rowIs BE 45 n (fun j => .pointer (some ⟨BE + 1 + j, 0, none⟩))) := ROW.out.of_block (hK.out.typ _ _ (IsB.of_row ROW.out))
          have x1 := ROW2.out.cell hkn
          have Ek : entE BE n (BE + 1 + k) := ⟨by omega, by omega⟩
          have x2 := hV.out.due Ek
          rw [entD_at] at x2
          obtain ⟨g1, g2, l, g3, g4⟩ := LEV.out k hkn
          obtain ⟨d, hd⟩ : ∃ d, dueOf DS k = d := ⟨_, rfl⟩
          rw [hd] at x2 g1 g2 g4
          have CW : Hid (Calls Ybad.prog 15 #[.int .u64 N, .int .u64 d] wr fun e w' => e = .returned (.tuple #[.int .i64 l, .int .u64 ((d / N ^ l : Nat) : Int), .int .u64 ((d / N ^ l * N ^ l : Nat) : Int)]) ∧ w' = wr) := where_any N d l wr hN2 hN100 g2 g4
          have hdl : IsLev N d l := g4
          obtain ⟨t, ht⟩ : ∃ t, d / N ^ l = t := ⟨_, rfl⟩
          obtain ⟨st, hst⟩ : ∃ st, t * N ^ l = st := ⟨_, rfl⟩
          rw [ht, hst] at CW
          have htN : t < N := by rw [← ht]; exact (hdl.digit hN2).2
          have HD : Hid (dueOf DS k = d ∧ IsLev N d l ∧ d / N ^ l = t ∧ d / N ^ l * N ^ l = st ∧ 1 ≤ d ∧ d < 18446744073709551616) := ⟨hd, g4, ht, by rw [ht]; exact hst, g1, g2⟩
          have EK : Hid (entE BE n (BE + 1 + k)) := Ek
          have HK : Hid (KeepW w.heap.size W2 wr) := hK
          clear hk g1 g2 g4 hdl ht hst hd Ek hWh hK hin
          go_wp2_with fail
          refine CW.out.mono ?_
          rintro x W3 ⟨rfl, rfl⟩
          clear CW
          go_wp2_with fail
          go_loop [20, 94] (fun sv iv => ∃ (j : Nat) (sh : Bool), j ≤ n ∧ sv = .bool sh ∧ iv = .int .i64 j ∧ Hid (sh = true ↔ ∃ i, i < j ∧ i ≠ k ∧ IsLev N (dueOf DS i) l ∧ dueOf DS i / N ^ l = t)) (fun _ iv => n - (intOf iv).toNat)
          case atStart => exact ⟨0, false, by omega, rfl, rfl, ⟨fun h => (by cases h), fun ⟨i, h, _⟩ => (by omega)⟩⟩
          case round =>
            obtain ⟨j, sh, hj, rfl, rfl, hsh⟩ := hrel
            by_cases hjn : j < n
            · have x3 := ROW2.out.cell hjn
              by_cases hjk : j = k
              · subst hjk
                have n45 := fun u => neq_same Ybad.ptr45 Ybad.size51 ⟨BE + 1 + j, 0, none⟩ u
                have F : Hid (sh = true ↔ ∃ i, i < j + 1 ∧ i ≠ j ∧ IsLev N (dueOf DS i) l ∧ dueOf DS i / N ^ l = t) :=
                  hsh.out.trans ⟨fun ⟨i, a, b⟩ => ⟨i, by omega, b⟩, fun ⟨i, a, b⟩ => ⟨i, by have := b.1; omega, b⟩⟩
                go_wp2
                go_round
                case rel => exact ⟨j + 1, sh, by omega, rfl, by go_num, F⟩
                case measure => simp [intOf]; omega
              · have Ej : entE BE n (BE + 1 + j) := ⟨by omega, by omega⟩
                have n45 : (binOp .neq 45 (.pointer (some ⟨BE + 1 + j, 0, none⟩)) (.pointer (some ⟨BE + 1 + k, 0, none⟩))).run Ybad.prog W3 = .ok (.bool true) W3 :=
                  neq_other Ybad.ptr45 Ybad.size51 (by decide) _ _ (fun h => hjk (by have h2 : BE + 1 + j = BE + 1 + k := congrArg Addr.block h; omega)) W3 (hV.out.ok Ej) (hV.out.ok EK.out)
                have x4 := hV.out.due Ej
                rw [entD_at] at x4
                obtain ⟨q1, q2, l', q3, q4⟩ := LEV.out j hjn
                obtain ⟨d', hd'⟩ : ∃ d', dueOf DS j = d' := ⟨_, rfl⟩
                rw [hd'] at x4 q1 q2 q4
                have CW : Hid (Calls Ybad.prog 15 #[.int .u64 N, .int .u64 d'] W3 fun e w' => e = .returned (.tuple #[.int .i64 l', .int .u64 ((d' / N ^ l' : Nat) : Int), .int .u64 ((d' / N ^ l' * N ^ l' : Nat) : Int)]) ∧ w' = W3) := where_any N d' l' W3 hN2 hN100 q2 q4
                obtain ⟨t', ht'⟩ : ∃ t', d' / N ^ l' = t' := ⟨_, rfl⟩
                obtain ⟨st', hst'⟩ : ∃ st', t' * N ^ l' = st' := ⟨_, rfl⟩
                rw [ht', hst'] at CW
                have IFF : Hid (st' = st ↔ IsLev N (dueOf DS j) l ∧ dueOf DS j / N ^ l = t) := by
                  have := start_iff hN2 q4 HD.out.2.1
                  rw [ht', hst', HD.out.2.2.2.1, HD.out.2.2.1] at this
                  show st' = st ↔ _
                  rw [this, hd']
                  constructor
                  · rintro ⟨rfl, h2⟩; exact ⟨q4, by rw [ht']; exact h2⟩
                  · rintro ⟨h1, h2⟩
                    have := IsLev.unique hN2 q4 h1
                    subst this
                    exact ⟨rfl, by rw [← ht']; exact h2⟩
                have HJK : Hid (j ≠ k) := hjk
                clear q1 q2 q4 ht' hst' hd' Ej hjk
                by_cases hs : st' = st
                · have F : Hid (∃ i, i < j + 1 ∧ i ≠ k ∧ IsLev N (dueOf DS i) l ∧ dueOf DS i / N ^ l = t) := ⟨j, by omega, HJK.out, IFF.out.1 hs⟩
                  have ts : ((st' : Int) == (st : Int)) = true := beq_iff_eq.2 (by omega)
                  clear hs
                  go_wp2_with fail
                  refine CW.out.mono ?_
                  rintro x W3 ⟨rfl, rfl⟩
                  go_wp2
                  go_round
                  case rel => exact ⟨j + 1, true, by omega, rfl, by go_num, ⟨fun _ => F.out, fun _ => rfl⟩⟩
                  case measure => simp [intOf]; omega
                · have F : Hid (sh = true ↔ ∃ i, i < j + 1 ∧ i ≠ k ∧ IsLev N (dueOf DS i) l ∧ dueOf DS i / N ^ l = t) :=
                    hsh.out.trans ⟨fun ⟨i, a, b⟩ => ⟨i, by omega, b⟩, fun ⟨i, a, b⟩ => ⟨i, by
                      have hij : i ≠ j := fun h => hs (IFF.out.2 (h ▸ b.2))
                      omega, b⟩⟩
                  have ts : ((st' : Int) == (st : Int)) = false := beq_eq_false_iff_ne.2 (by omega)
                  clear hs
                  go_wp2_with fail
                  refine CW.out.mono ?_
                  rintro x W3 ⟨rfl, rfl⟩
                  go_wp2
                  go_round
                  case rel => exact ⟨j + 1, sh, by omega, rfl, by go_num, F⟩
                  case measure => simp [intOf]; omega
            · have hjn' : j = n := by omega
              have SHR : ShIs sh (Shares N (entD (dueOf DS) BE) (fun x => entE BE n x ∧ x ≠ BE + 1 + k) l t) := by
                show sh = true ↔ _
                rw [hsh.out, hjn']
                constructor
                · rintro ⟨i, a, b, c1, c2⟩
                  exact ⟨BE + 1 + i, ⟨⟨by omega, by omega⟩, by omega⟩, by rw [entD_at]; exact c1, by rw [entD_at]; exact c2⟩
                · rintro ⟨x, ⟨a, b⟩, c1, c2⟩
                  obtain ⟨i, rfl⟩ : ∃ i, x = BE + 1 + i := ⟨x - (BE + 1), by have := a.1; omega⟩
                  rw [entD_at] at c1 c2
                  exact ⟨i, by have := a.2; omega, by omega, c1, c2⟩
              have CU : Hid (Calls Ybad.prog 14 #[.pointer (some ⟨L, 0, none⟩), .pointer (some ⟨BE + 1 + k, 0, none⟩)] W3 (UnlinkPost W3 w.heap.size L N n' l (BE + 1 + k) n (entD (dueOf DS) BE) (entE BE n) (entE BE n))) := by
                refine unlink_ok hV.out HG.out hN64 EK.out ?_ ?_ ?_ g3 (by omega) (by omega)
                · rw [entD_at, HD.out.1]; exact HD.out.2.2.2.2.1
                · rw [entD_at, HD.out.1]; exact HD.out.2.2.2.2.2
                · rw [entD_at, HD.out.1]; exact HD.out.2.1
              clear hsh hjn'
              go_wp2_with fail
              refine CU.out.mono ?_
              rintro x W4 ⟨b, rfl, hb, hW4, k4⟩
              rw [entD_at, HD.out.1, HD.out.2.2.2.1]
              rw [entD_at, HD.out.1, HD.out.2.2.1, ← (show _ = true ↔ _ from SHR)] at hb
              obtain rfl : b = !sh := bool_not hb
              have c4 := hW4.count.1
              have K4 : Hid (KeepW w.heap.size W3 W4) := k4
              have H4 : Hid (Wh W4 w.heap.size L N n' ((n : Int) - 1) (entD (dueOf DS) BE) (entE BE n) (fun x => entE BE n x ∧ x ≠ BE + 1 + k)) := hW4
              have CA : Hid (Calls Ybad.prog 13 #[.pointer (some ⟨L, 0, none⟩), .pointer (some ⟨BE + 1 + k, 0, none⟩)] W4 fun x w' => x = .returned (.tuple #[]) ∧ Wh w' w.heap.size L N n' ((n : Int) - 1 + 1) (entD (dueOf DS) BE) (entE BE n) (fun x => (entE BE n x ∧ x ≠ BE + 1 + k) ∨ x = BE + 1 + k) ∧ KeepW w.heap.size W4 w') := by
                refine add_ok hW4 HG.out hN64 (l := l) EK.out (fun h => h.2 rfl) ?_ ?_ ?_ g3 (by omega) (by omega)
                · rw [entD_at, HD.out.1]; exact HD.out.2.2.2.2.1
                · rw [entD_at, HD.out.1]; exact HD.out.2.2.2.2.2
                · rw [entD_at, HD.out.1]; exact HD.out.2.1
              clear hb hW4 k4 CU
              cases sh
              · go_wp2_with fail
                refine CA.out.mono ?_
                rintro x W5 ⟨rfl, hW5, k5⟩
                rw [show (n : Int) - 1 + 1 = n by omega] at hW5
                have c5 := hW5.count.1
                have H5 : Hid (Wh W5 w.heap.size L N n' n (entD (dueOf DS) BE) (entE BE n) (fun x => (entE BE n x ∧ x ≠ BE + 1 + k) ∨ x = BE + 1 + k)) := hW5
                have K5 : Hid (KeepW w.heap.size W4 W5) := k5
                have HO5 : Hid (Calls Ybad.prog 10 #[.pointer (some ⟨L, 0, none⟩), .int .i64 l, .int .u64 t] W5 fun x w' => x = .returned (.bool true) ∧ w' = W5) := by
                  refine (holds_wh hW5 hN64 g3 htN).mono ?_
                  rintro x w' ⟨⟨b, hx, hb⟩, hw⟩
                  have : b = true := hb.2 ⟨BE + 1 + k, Or.inr rfl, by rw [entD_at, HD.out.1]; exact HD.out.2.1, by rw [entD_at, HD.out.1]; exact HD.out.2.2.1⟩
                  subst this
                  exact ⟨hx, hw⟩
                have CU : Hid (Calls Ybad.prog 14 #[.pointer (some ⟨L, 0, none⟩), .pointer (some ⟨BE + 1 + k, 0, none⟩)] W5 (UnlinkPost W5 w.heap.size L N n' l (BE + 1 + k) n (entD (dueOf DS) BE) (entE BE n) (fun x => (entE BE n x ∧ x ≠ BE + 1 + k) ∨ x = BE + 1 + k))) := by
                  refine unlink_ok hW5 HG.out hN64 (Or.inr rfl) ?_ ?_ ?_ g3 (by omega) (by omega)
                  · rw [entD_at, HD.out.1]; exact HD.out.2.2.2.2.1
                  · rw [entD_at, HD.out.1]; exact HD.out.2.2.2.2.2
                  · rw [entD_at, HD.out.1]; exact HD.out.2.1
                clear hW5 k5 CA c4
                go_wp2_with (go_at_call 10; refine HO5.out.mono ?_; rintro x W6 ⟨rfl, rfl⟩)
                refine CU.out.mono ?_
                rintro x W7 ⟨b, rfl, hb, hW7, k7⟩
                rw [entD_at, HD.out.1, HD.out.2.2.2.1]
                have VV : ∀ x, ((entE BE n x ∧ x ≠ BE + 1 + k) ∨ x = BE + 1 + k) ∧ x ≠ BE + 1 + k ↔ entE BE n x ∧ x ≠ BE + 1 + k := fun x => by
                  constructor
                  · rintro ⟨h | h, g⟩
                    · exact h
                    · exact absurd h g
                  · rintro h; exact ⟨Or.inl h, h.2⟩
                rw [entD_at, HD.out.1, HD.out.2.2.1, Shares.cv VV, ← (show _ = true ↔ _ from SHR)] at hb
                obtain rfl := bool_not hb
                have c7 := hW7.count.1
                have hW8 := hW7.cv VV
                have HO7 : Hid (Calls Ybad.prog 10 #[.pointer (some ⟨L, 0, none⟩), .int .i64 l, .int .u64 t] W7 fun x w' => x = .returned (.bool false) ∧ w' = W7) := by
                  refine (holds_wh hW8 hN64 g3 htN).mono ?_
                  rintro x w' ⟨⟨b, hx, hb⟩, hw⟩
                  obtain rfl := bool_same hb SHR
                  exact ⟨hx, hw⟩
                have BF : Hid (Below w.heap.size w W7) := BW2.out.trans ((HK.out.trans (K4.out.trans (K5.out.trans k7))).below)
                clear hb hW7 hW8 k7 CU c5 HO5
                go_wp2_with (go_at_call 10; refine HO7.out.mono ?_; rintro x W9 ⟨rfl, rfl⟩)
                go_ret
                exact ⟨rfl, BF.out⟩
              · go_wp2_with fail
                refine CA.out.mono ?_
                rintro x W5 ⟨rfl, hW5, k5⟩
                rw [show (n : Int) - 1 + 1 = n by omega] at hW5
                have c5 := hW5.count.1
                have H5 : Hid (Wh W5 w.heap.size L N n' n (entD (dueOf DS) BE) (entE BE n) (fun x => (entE BE n x ∧ x ≠ BE + 1 + k) ∨ x = BE + 1 + k)) := hW5
                have K5 : Hid (KeepW w.heap.size W4 W5) := k5
                have HO5 : Hid (Calls Ybad.prog 10 #[.pointer (some ⟨L, 0, none⟩), .int .i64 l, .int .u64 t] W5 fun x w' => x = .returned (.bool true) ∧ w' = W5) := by
                  refine (holds_wh hW5 hN64 g3 htN).mono ?_
                  rintro x w' ⟨⟨b, hx, hb⟩, hw⟩
                  have : b = true := hb.2 ⟨BE + 1 + k, Or.inr rfl, by rw [entD_at, HD.out.1]; exact HD.out.2.1, by rw [entD_at, HD.out.1]; exact HD.out.2.2.1⟩
                  subst this
                  exact ⟨hx, hw⟩
                have CU : Hid (Calls Ybad.prog 14 #[.pointer (some ⟨L, 0, none⟩), .pointer (some ⟨BE + 1 + k, 0, none⟩)] W5 (UnlinkPost W5 w.heap.size L N n' l (BE + 1 + k) n (entD (dueOf DS) BE) (entE BE n) (fun x => (entE BE n x ∧ x ≠ BE + 1 + k) ∨ x = BE + 1 + k))) := by
                  refine unlink_ok hW5 HG.out hN64 (Or.inr rfl) ?_ ?_ ?_ g3 (by omega) (by omega)
                  · rw [entD_at, HD.out.1]; exact HD.out.2.2.2.2.1
                  · rw [entD_at, HD.out.1]; exact HD.out.2.2.2.2.2
                  · rw [entD_at, HD.out.1]; exact HD.out.2.1
                clear hW5 k5 CA c4
                go_wp2_with (go_at_call 10; refine HO5.out.mono ?_; rintro x W6 ⟨rfl, rfl⟩)
                refine CU.out.mono ?_
                rintro x W7 ⟨b, rfl, hb, hW7, k7⟩
                rw [entD_at, HD.out.1, HD.out.2.2.2.1]
                have VV : ∀ x, ((entE BE n x ∧ x ≠ BE + 1 + k) ∨ x = BE + 1 + k) ∧ x ≠ BE + 1 + k ↔ entE BE n x ∧ x ≠ BE + 1 + k := fun x => by
                  constructor
                  · rintro ⟨h | h, g⟩
                    · exact h
                    · exact absurd h g
                  · rintro h; exact ⟨Or.inl h, h.2⟩
                rw [entD_at, HD.out.1, HD.out.2.2.1, Shares.cv VV, ← (show _ = true ↔ _ from SHR)] at hb
                obtain rfl := bool_not hb
                have c7 := hW7.count.1
                have hW8 := hW7.cv VV
                have HO7 : Hid (Calls Ybad.prog 10 #[.pointer (some ⟨L, 0, none⟩), .int .i64 l, .int .u64 t] W7 fun x w' => x = .returned (.bool true) ∧ w' = W7) := by
                  refine (holds_wh hW8 hN64 g3 htN).mono ?_
                  rintro x w' ⟨⟨b, hx, hb⟩, hw⟩
                  obtain rfl := bool_same hb SHR
                  exact ⟨hx, hw⟩
                have BF : Hid (Below w.heap.size w W7) := BW2.out.trans ((HK.out.trans (K4.out.trans (K5.out.trans k7))).below)
                clear hb hW7 hW8 k7 CU c5 HO5
                go_wp2_with (go_at_call 10; refine HO7.out.mono ?_; rintro x W9 ⟨rfl, rfl⟩)
                go_ret
                exact ⟨rfl, BF.out⟩
end Go.Proofs.YbulkajrsDoor
