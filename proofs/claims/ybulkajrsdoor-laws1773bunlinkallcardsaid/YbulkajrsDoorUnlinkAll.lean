import Derived.Test.YbulkajrsDoorReAdd
import Derived.OwnWalk
import Derived.Great.BuildSlice
namespace Go.Proofs.YbulkajrsDoor
open Go.RowKit
set_option linter.unusedVariables false


/-! ### The list of live entries, and the rest that the law builds -/
theorem erase_split {ls : List Nat} {ix : Nat} (h : ix < ls.length) : ∃ p s, ls = p ++ ls.getD ix 0 :: s ∧ ls.eraseIdx ix = p ++ s ∧ p.length = ix := by
  refine ⟨ls.take ix, ls.drop (ix + 1), ?_, ?_, by simp; omega⟩
  · rw [List.getD_eq_getElem?_getD, List.getElem?_eq_getElem h]
    simp
  · exact List.eraseIdx_eq_take_drop_succ ls ix
theorem erase_mem {ls : List Nat} {ix : Nat} (h : ix < ls.length) (hn : ls.Nodup) (x : Nat) : x ∈ ls.eraseIdx ix ↔ x ∈ ls ∧ x ≠ ls.getD ix 0 := by
  obtain ⟨p, s, h1, h2, _⟩ := erase_split h
  generalize ls.getD ix 0 = e at *
  rw [h2]
  rw [h1] at hn ⊢
  obtain ⟨g1, _⟩ := List.nodup_cons.1 ((List.perm_middle.nodup_iff).1 hn)
  constructor
  · intro hx
    exact ⟨by simp at hx ⊢; rcases hx with hx | hx <;> simp [hx], fun e => g1 (e ▸ hx)⟩
  · rintro ⟨hx, hne⟩
    simp at hx ⊢
    rcases hx with hx | hx | hx
    · exact Or.inl hx
    · exact absurd hx hne
    · exact Or.inr hx
theorem erase_nodup {ls : List Nat} {ix : Nat} (hn : ls.Nodup) : (ls.eraseIdx ix).Nodup := hn.sublist (List.eraseIdx_sublist ls ix)
theorem erase_step_ne {ls : List Nat} {ix j : Nat} (hj : j < ls.length) (h : j ≠ ix) : (ls.take (j + 1)).eraseIdx ix = (ls.take j).eraseIdx ix ++ [ls.getD j 0] := by
  have e : ls.take (j + 1) = ls.take j ++ [ls.getD j 0] := by
    rw [List.take_add_one, List.getD_eq_getElem?_getD, List.getElem?_eq_getElem hj]; simp
  rw [e]
  by_cases c : ix < j
  · rw [List.eraseIdx_append_of_lt_length (by simp; omega)]
  · rw [List.eraseIdx_append_of_length_le (by simp; omega), List.eraseIdx_of_length_le (l := ls.take j) (by simp; omega)]
    rw [List.eraseIdx_of_length_le]
    simp; omega
theorem erase_step_eq {ls : List Nat} {j : Nat} (hj : j < ls.length) : (ls.take (j + 1)).eraseIdx j = (ls.take j).eraseIdx j := by
  have e : ls.take (j + 1) = ls.take j ++ [ls.getD j 0] := by
    rw [List.take_add_one, List.getD_eq_getElem?_getD, List.getElem?_eq_getElem hj]; simp
  rw [e, List.eraseIdx_append_of_length_le (by simp; omega), List.eraseIdx_of_length_le (l := ls.take j) (by simp; omega)]
  have : j - (ls.take j).length = 0 := by simp; omega
  rw [this]; simp
def ptrV (x : Nat) : Value := .pointer (some ⟨x, 0, none⟩)
theorem own_row {w : World} {RB K : Nat} {xs : List Nat} (h : w.ownsRow RB 45 1 (.slice (some ⟨RB, 0, none⟩) K K) K (xs.map ptrV)) (hl : xs.length = K) : w.rowIs RB 45 K (fun j => ptrV (xs.getD j 0)) := by
  rcases h.2 with ⟨h', _⟩ | ⟨g, cap, cur, h', _, hg, _, _, hs, ht⟩
  · simp at h'
  · simp only [Value.slice.injEq, Option.some.injEq, Addr.mk.injEq, and_true, true_and] at h'
    obtain ⟨rfl, rfl⟩ := h'
    refine ⟨cur, hg, by omega, fun j hj => ?_⟩
    have h0 : cur.toList = xs.map ptrV := by
      rw [← ht, List.take_of_length_le (by rw [Array.length_toList]; omega)]
    rw [← Array.getElem?_toList, h0, List.getElem?_map, List.getElem?_eq_getElem (by omega)]
    show some (ptrV _) = some (ptrV (xs.getD j 0))
    rw [List.getD_eq_getElem?_getD, List.getElem?_eq_getElem (by omega)]
    rfl

theorem erase_len {ls : List Nat} {ix j : Nat} (hj : j ≤ ls.length) : ((ls.take j).eraseIdx ix).length = if ix < j then j - 1 else j := by
  rw [List.length_eraseIdx]
  simp [Nat.min_eq_left hj]

theorem Wh.of_old {w w' : World} {B L N n : Nat} {c : Int} {D : Nat → Nat} {E V : Nat → Prop} (h : Wh w B L N n c D E V) (hb : ∀ k, k < w.heap.size → w'.heap[k]? = w.heap[k]?) : Wh w' B L N n c D E V := by
  obtain ⟨s, LB, HB, H, Q, hn, hc, r, i⟩ := h
  exact ⟨s, LB, HB, H, Q, hn, hc, r.of_blocks (fun k t z hk _ _ => hb k hk.lt), i.of_blocks (fun k t z hk _ => hb k hk.lt)⟩

/-- What the law's great loop keeps. -/
structure OL (w wr : World) (L N n' n BE lb k : Nat) (DD : Nat → Nat) (ls : List Nat) : Prop where
  len : ls.length = k
  nd : ls.Nodup
  en : ∀ x, x ∈ ls → entE BE n x
  row : wr.rowIs lb 45 k (fun j => ptrV (ls.getD j 0))
  wh : Wh wr w.heap.size L N n' (k : Nat) (entD DD BE) (entE BE n) (fun x => x ∈ ls)
  bel : Below w.heap.size w wr

theorem own_start (w : World) (K : Nat) (hK : K ≤ maxLen) : (w.alloc (.cells (madeCells #[.pointer none] K) 45)).ownsRow w.heap.size 45 1 (.slice (some ⟨w.heap.size, 0, none⟩) 0 K) 0 ([].map ptrV) :=
  ⟨rfl, .inr ⟨w.heap.size, K, _, rfl, Nat.le_refl _, heap_alloc_new _ _, Nat.zero_le _, hK, by rw [size_madeCells]; omega, by simp⟩⟩
theorem run_make_rest (K : Nat) (hK : K ≤ 300) (w : World) : (Instr.makeSlice 44 (.int .i64 0) (.int .i64 (K : Int))).run Ybad.prog w = .ok (.slice (some ⟨w.heap.size, 0, none⟩) 0 K) (w.alloc (.cells (madeCells #[.pointer none] K) 45)) := by
  obtain ⟨i, hi, hzz⟩ := Option.map_eq_some_iff.1 Ybad.info45
  simp only [Prod.mk.injEq] at hzz
  obtain ⟨hz, hs, hb⟩ := hzz
  have hr := run_make (P := Ybad.prog) w 44 45 i _ Ybad.under44 hi hz .i64 .i64 0 K (by omega) (by omega) (by rw [hb]; omega) (by omega)
  rw [hs, show ((K : Int).toNat * 1) = K by simp, show ((K : Int).toNat) = K by simp] at hr
  exact hr

set_option maxHeartbeats 8000000 in
set_option maxRecDepth 100000 in
theorem unlinkAll_in (a0 : Int) (N n cap1 m cap2 : Nat) (a1 a2 : Option Addr) (DS SS : Nat → Nat) (w : World) (h0 : 0 ≤ a0) (h1 : a0 ≤ 255) (hN : slotsB a0 = N) (hg : GoodN N) (hN64 : N ≤ 64) (hn : n ≤ 300) (hm : m ≤ 9223372036854775807)
    (hTab : TabAt w) (hz : 0 < w.heap.size)
    (hc1 : 0 < n → ∃ b off, a1 = some ⟨b, off, none⟩ ∧ b < w.heap.size ∧ ∀ j, j < n → w.cell? ⟨b, off + j, none⟩ = some (.int .u64 (DS j))) (hDS : ∀ j, DS j ≤ 18446744073709551615)
    (hc2 : 0 < m → ∃ b off, a2 = some ⟨b, off, none⟩ ∧ b < w.heap.size ∧ ∀ j, j < m → w.cell? ⟨b, off + j, none⟩ = some (.int .u8 (SS j))) (hSS : ∀ j, SS j ≤ 255) :
    Calls Ybad.prog 5 #[.int .u8 a0, .slice a1 n cap1, .slice a2 m cap2] w fun e w' => e = .returned (.bool true) ∧ Below w.heap.size w w' := by
  obtain ⟨hN2, hN100⟩ := hg.bounds
  have CB : Hid (Calls Ybad.prog 11 #[.int .u8 a0] w fun e w' => e = .returned (.int .u64 N) ∧ Below w.heap.size w w') := by rw [← hN]; exact bslots_any a0 h0 h1 w
  have C1 : Hid (0 < n → ∃ b off, a1 = some ⟨b, off, none⟩ ∧ b < w.heap.size ∧ ∀ j, j < n → w.cell? ⟨b, off + j, none⟩ = some (.int .u64 (DS j))) := hc1
  have C2 : Hid (0 < m → ∃ b off, a2 = some ⟨b, off, none⟩ ∧ b < w.heap.size ∧ ∀ j, j < m → w.cell? ⟨b, off + j, none⟩ = some (.int .u8 (SS j))) := hc2
  have HSS : Hid (∀ j, SS j ≤ 255) := hSS
  have HDS : Hid (∀ j, DS j ≤ 18446744073709551615) := hDS
  have HTab : Hid (TabAt w) := hTab
  have HG : Hid (GoodN N) := hg
  have hmk := run_make_row' (P := Ybad.prog) 44 45 (.pointer none) 8 Ybad.under44 Ybad.info45 rfl .i64 .i64 n (by omega) (by omega)
  have t300 : decide ((300 : Int) < (n : Int)) = false := by simp; omega
  have hbd := Ybad.build51
  clear hc1 hc2 hSS hDS hTab hg hN
  go_enter Ybad.func5, Ybad.ntmps5
  go_wp2_with fail
  refine CB.out.mono ?_
  rintro x W0 ⟨rfl, bel0⟩
  have B0 : Hid (Below w.heap.size w W0) := bel0
  clear bel0 CB
  go_wp2_with fail
  obtain ⟨BE, hBE⟩ : ∃ BE, W0.heap.size = BE := ⟨_, rfl⟩
  have CR0 := Crt.start W0 n (dueOf DS)
  rw [hBE] at CR0
  go_loopw [10, 46] (fun lv iv wr => ∃ i last : Nat, i ≤ n ∧ lv = .int .u64 last ∧ iv = .int .i64 i ∧ Hid (Crt W0 wr BE n i last (dueOf DS))) (fun _ iv _ => n - (intOf iv).toNat)
  case atStart => exact ⟨0, 1, by omega, rfl, rfl, CR0⟩
  case round =>
    obtain ⟨i, last, hi, rfl, rfl, hC⟩ := hrel
    clear CR0
    by_cases hlt : i < n
    · obtain ⟨b1, o1, rfl, hb1, hc⟩ := C1.out (by omega)
      have x1 : wr.cell? ⟨b1, o1 + i, none⟩ = some (.int .u64 (DS i)) := (hC.out.bel.cell (p := ⟨b1, o1 + i, none⟩) (by show b1 < BE; have := B0.out.size; omega)).trans ((B0.out.cell (p := ⟨b1, o1 + i, none⟩) hb1).trans (hc i hlt))
      clear hc
      have HSZ : Hid (wr.heap.size = BE + 1 + i) := hC.out.size
      have hBl : BE < wr.heap.size := by have := HSZ.out; omega
      have rc := hC.out.row.cell hlt
      rw [if_neg (by omega)] at rc
      have rf := hC.out.row.frozen i
      have y1 := HDS.out i
      have l1 := hC.out.l1
      have l2 := hC.out.l2
      by_cases hd0 : DS i = 0
      · have td : ((DS i : Int) == 0) = true := beq_iff_eq.2 (by omega)
        have tl : decide ((last : Int) < 1) = false := by simp; omega
        have FIN : Hid (Crt W0 ((wr.setCell ⟨BE, i, none⟩ (.pointer (some ⟨wr.heap.size, 0, none⟩))).alloc (.cells (entCells 1) 51)) BE n (i + 1) last (dueOf DS)) := by
          have e1 : dueOf DS i = 1 := by unfold dueOf; rw [if_pos hd0]
          have := hC.out.step hlt last (Nat.le_refl _) (by omega) l2
          rw [e1, ← HSZ.out] at this
          exact this
        clear hd0
        go_wp2
        go_roundw
        case rel => exact ⟨i + 1, last, by omega, rfl, by go_num, FIN⟩
        case measure => simp [intOf]; omega
      · have td : ((DS i : Int) == 0) = false := beq_eq_false_iff_ne.2 (by omega)
        have e1 : dueOf DS i = DS i := by unfold dueOf; rw [if_neg hd0]
        by_cases hll : last < DS i
        · have tl : decide (last < DS i) = true := decide_eq_true hll
          have FIN : Hid (Crt W0 ((wr.setCell ⟨BE, i, none⟩ (.pointer (some ⟨wr.heap.size, 0, none⟩))).alloc (.cells (entCells (DS i)) 51)) BE n (i + 1) (DS i) (dueOf DS)) := by
            have := hC.out.step hlt (DS i) (by omega) (by omega) (by omega)
            rw [e1, ← HSZ.out] at this
            exact this
          clear hd0 e1 hll
          go_wp2
          go_roundw
          case rel => exact ⟨i + 1, DS i, by omega, rfl, by go_num, FIN⟩
          case measure => simp [intOf]; omega
        · have tl : decide (last < DS i) = false := decide_eq_false hll
          have FIN : Hid (Crt W0 ((wr.setCell ⟨BE, i, none⟩ (.pointer (some ⟨wr.heap.size, 0, none⟩))).alloc (.cells (entCells (DS i)) 51)) BE n (i + 1) last (dueOf DS)) := by
            have := hC.out.step hlt last (by omega) (by omega) l2
            rw [e1, ← HSZ.out] at this
            exact this
          clear hd0 e1 hll
          go_wp2
          go_roundw
          case rel => exact ⟨i + 1, last, by omega, rfl, by go_num, FIN⟩
          case measure => simp [intOf]; omega
    · have hin : i = n := by omega
      have HC : Hid (Crt W0 wr BE n n last (dueOf DS)) := by rw [← hin]; rw [hin] at hC ⊢; exact hC
      have HBE : Hid (w.heap.size ≤ BE) := by show _ ≤ BE; have := B0.out.size; omega
      have hz2 : 0 < wr.heap.size := by have := HC.out.size; omega
      have belr : Below w.heap.size w wr := B0.out.trans (HC.out.bel.mono HBE.out)
      have CN : Hid (Calls Ybad.prog 12 #[.int .i64 N, .int .u64 last] wr (NewPost N last wr (lvN N))) := new_any N last HG.out HC.out.l2 wr (HTab.out.below belr hz) hz2
      have lN : last < 18446744073709551616 := HC.out.l2
      clear hC belr
      go_wp2_with fail
      refine CN.out.mono ?_
      rintro e w1 ⟨n', bl, bh, bf, ba, rfl, hpow, hn1, hn64, r73, r34, r3, r74, gl, gh, gf, ga, hb1'⟩
      have RR : Hid (w1.rowIs bl 73 n' (fun _ => .slice none 0 0) ∧ w1.rowIs bh 34 n' (fun _ => .slice none 0 0) ∧ w1.rowIs bf 3 n' (fun _ => .int .i64 0) ∧ w1.rowIs ba 74 n' (fun _ => .pointer none) ∧ wr.heap.size ≤ bl ∧ wr.heap.size ≤ bh ∧ wr.heap.size ≤ bf ∧ wr.heap.size ≤ ba ∧ Below wr.heap.size wr w1) := ⟨r73, r34, r3, r74, gl, gh, gf, ga, hb1'⟩
      have HPOW : Hid (last < N ^ n') := hpow
      clear r73 r34 r3 r74 gl gh gf ga hb1' hpow
      go_wp2_with ((refine wpList_newvar33 rfl rfl 13 rfl rfl (.tmp 67) rfl rfl (lvN N n' bl bh bf ba) rfl rfl ?_; intro L W2 hL hLv hsz2 hb2))
      obtain ⟨q1, q2, q3, q4, q5, q6, q7, q8, q9⟩ := RR.out
      have ST := wh_start HC.out HBE.out B0.out hn64 q1 q2 q3 q4 q5 q6 q7 q8 q9 hL hLv hb2
      have ST1 : Hid (Wh W2 w.heap.size L N n' 0 (entD (dueOf DS) BE) (entE BE n) (fun x => entE BE n x ∧ x < BE + 1 + 0)) := ST.1
      have BW2 : Hid (Below w.heap.size w W2) := ST.2.1
      have ROW : Hid (W2.rowIs BE 45 n (fun j => .pointer (some ⟨BE + 1 + j, 0, none⟩))) := ST.2.2
      have LEV : Hid (∀ j, j < n → 1 ≤ dueOf DS j ∧ dueOf DS j < 18446744073709551616 ∧ ∃ l, l < n' ∧ IsLev N (dueOf DS j) l) := by
        intro j hj
        have g1 : 1 ≤ dueOf DS j := by unfold dueOf; split <;> omega
        have g2 := HC.out.l3 j hj
        exact ⟨g1, by omega, lev_ex N hN2 _ g1 n' (Nat.lt_of_le_of_lt g2 HPOW.out)⟩
      have LEVE : Hid (∀ x, entE BE n x → 1 ≤ entD (dueOf DS) BE x ∧ entD (dueOf DS) BE x < 18446744073709551616 ∧ ∃ l, l < n' ∧ IsLev N (entD (dueOf DS) BE x) l) := fun x hx => LEV.out (x - (BE + 1)) (by have := hx.1; have := hx.2; omega)
      clear q1 q2 q3 q4 q5 q6 q7 q8 q9 RR ST hL hLv hsz2 hb2 HC HPOW CN hin hlt
      go_loopw [70] (fun v wr => ∃ i : Nat, i ≤ n ∧ v = .int .i64 i ∧ Hid (Wh wr w.heap.size L N n' i (entD (dueOf DS) BE) (entE BE n) (fun x => entE BE n x ∧ x < BE + 1 + i)) ∧ Hid (KeepW w.heap.size W2 wr)) (fun v _ => n - (intOf v).toNat)
      case atStart => exact ⟨0, by omega, rfl, ST1, KeepW.refl _ _⟩
      case round =>
        obtain ⟨i, hi, rfl, hWh, hK⟩ := hrel
        clear ST1
        by_cases hlt : i < n
        · have x1 : wr.cell? ⟨BE, i, none⟩ = some (.pointer (some ⟨BE + 1 + i, 0, none⟩)) := (ROW.out.of_block (hK.out.typ _ _ (IsB.of_row ROW.out))).cell hlt
          obtain ⟨g1, g2, l, g3, g4⟩ := LEV.out i hlt
          have CA : Hid (Calls Ybad.prog 13 #[.pointer (some ⟨L, 0, none⟩), .pointer (some ⟨BE + 1 + i, 0, none⟩)] wr fun x w' => x = .returned (.tuple #[]) ∧ Wh w' w.heap.size L N n' ((i : Int) + 1) (entD (dueOf DS) BE) (entE BE n) (fun x => (entE BE n x ∧ x < BE + 1 + i) ∨ x = BE + 1 + i) ∧ KeepW w.heap.size wr w') := by
            refine add_ok hWh.out HG.out hN64 (l := l) ⟨by omega, by omega⟩ (fun h => by have := h.2; omega) ?_ ?_ ?_ g3 (by omega) (by omega)
            · rw [entD_at]; exact g1
            · rw [entD_at]; exact g2
            · rw [entD_at]; exact g4
          clear g1 g2 g3 g4
          go_wp2_with fail
          refine CA.out.mono ?_
          rintro x W3 ⟨rfl, hW3, k3⟩
          have F1 : Hid (Wh W3 w.heap.size L N n' ((i + 1 : Nat) : Int) (entD (dueOf DS) BE) (entE BE n) (fun x => entE BE n x ∧ x < BE + 1 + (i + 1))) := by
            refine Wh.cv hW3 (fun x => ?_)
            unfold entE
            omega
          have F2 : Hid (KeepW w.heap.size W2 W3) := hK.out.trans k3
          clear hW3 k3 x1 CA
          go_wp2
          go_roundw
          case rel => exact ⟨i + 1, by omega, by go_num, F1, F2⟩
          case measure => simp [intOf]; omega
        · have hin : i = n := by omega
          have hV : Hid (Wh wr w.heap.size L N n' n (entD (dueOf DS) BE) (entE BE n) (entE BE n)) := by
            rw [hin] at hWh
            exact Wh.cv hWh.out (fun x => by unfold entE; omega)
          have ROW2 : Hid (wr.rowIs BE 45 n (fun j => .pointer (some ⟨BE + 1 + j, 0, none⟩))) := ROW.out.of_block (hK.out.typ _ _ (IsB.of_row ROW.out))
          have BW3 : Hid (Below w.heap.size w wr) := BW2.out.trans hK.out.below
          have c71 := hV.out.count.1
          clear hWh hK hin ROW BW2
          go_wp2_with fail
          have OL0 : Hid (OL w wr L N n' n BE BE n (dueOf DS) ((List.range n).map (fun j => BE + 1 + j))) := by
            have hmem : ∀ x, x ∈ (List.range n).map (fun j => BE + 1 + j) ↔ entE BE n x := fun x => by
              simp only [List.mem_map, List.mem_range]
              constructor
              · rintro ⟨j, hj, rfl⟩; exact ⟨by omega, by omega⟩
              · intro h; exact ⟨x - (BE + 1), by have := h.1; have := h.2; omega, by have := h.1; omega⟩
            refine ⟨by simp, ?_, fun x hx => (hmem x).1 hx, ROW2.out.congr (fun j hj => ?_), hV.out.cv (fun x => (hmem x).symm), BW3.out⟩
            · exact List.Pairwise.map _ (fun a b h => by omega) List.nodup_range
            · rw [List.getD_eq_getElem?_getD, List.getElem?_map, List.getElem?_range hj]; rfl
          clear hV ROW2 BW3 c71
          go_loopw [16, 17] (fun lv sv wr => ∃ (ls : List Nat) (lb k st : Nat), lv = .slice (some ⟨lb, 0, none⟩) k k ∧ sv = .int .i64 st ∧ st + k = n ∧ Hid (OL w wr L N n' n BE lb k (dueOf DS) ls)) (fun _ sv _ => n - (intOf sv).toNat)
          case atStart => exact ⟨_, BE, n, 0, rfl, rfl, by omega, OL0⟩
          case round =>
            obtain ⟨ls, lb, k, st, rfl, rfl, hst, hOL⟩ := hrel
            clear OL0 hlt
            by_cases hk : 0 < k
            · obtain ⟨K, rfl⟩ : ∃ K, k = K + 1 := ⟨k - 1, by omega⟩
              have hmr := fun w => run_make_rest K (by omega) w
              by_cases hsm : st < m
              · obtain ⟨b2, o2, rfl, hb2, hc⟩ := C2.out (by omega)
                have x0 : wr.cell? ⟨b2, o2 + st, none⟩ = some (.int .u8 (SS st)) := (hOL.out.bel.cell (p := ⟨b2, o2 + st, none⟩) hb2).trans (hc st hsm)
                have y0 := HSS.out st
                obtain ⟨ix, hixd⟩ : ∃ ix, SS st % (K + 1) = ix := ⟨_, rfl⟩
                have hix : ix < K + 1 := by rw [← hixd]; exact Nat.mod_lt _ (by omega)
                have z1 : ((SS st : Int) % ((K : Int) + 1)) = (ix : Int) := by rw [← hixd]; simp
                clear hc hixd

                obtain ⟨WO, hWO⟩ : ∃ WO, WO = wr := ⟨_, rfl⟩
                subst hWO
                have hixl : ix < ls.length := by have := hOL.out.len; omega
                obtain ⟨e, he⟩ : ∃ e, ls.getD ix 0 = e := ⟨_, rfl⟩
                have x1 : WO.cell? ⟨lb, ix, none⟩ = some (.pointer (some ⟨e, 0, none⟩)) := by have := hOL.out.row.cell hix; rw [he] at this; exact this
                have HE : Hid (ls.getD ix 0 = e ∧ e ∈ ls ∧ entE BE n e) := by
                  have hmem : e ∈ ls := by rw [← he, List.getD_eq_getElem?_getD, List.getElem?_eq_getElem hixl]; exact List.getElem_mem hixl
                  exact ⟨he, hmem, hOL.out.en e hmem⟩
                obtain ⟨RB, hRB⟩ : ∃ RB, WO.heap.size = RB := ⟨_, rfl⟩
                have OW0 : Hid ((WO.alloc (.cells (madeCells #[.pointer none] K) 45)).ownsRow RB 45 1 (.slice (some ⟨RB, 0, none⟩) 0 K) 0 ([].map ptrV)) := by rw [← hRB]; exact own_start WO K (by unfold maxLen; omega)
                have BL0 : Hid (Below RB WO (WO.alloc (.cells (madeCells #[.pointer none] K) 45))) := by rw [← hRB]; exact (Below.refl _ _).alloc (Nat.le_refl _) _
                have HRB : Hid (WO.heap.size = RB) := hRB
                have LBR : Hid (lb < RB) := by show lb < RB; rw [← hRB]; exact hOL.out.row.lt
                clear he
                go_wp2_with fail
                try rw [z1]
                clear z1
                go_loopw [21, 110] (fun rv jv w4 => ∃ j r : Nat, j ≤ K + 1 ∧ jv = .int .i64 j ∧ rv = .slice (some ⟨RB, 0, none⟩) r K ∧ Hid (((ls.take j).eraseIdx ix).length = r) ∧ Hid (w4.ownsRow RB 45 1 (.slice (some ⟨RB, 0, none⟩) r K) r (((ls.take j).eraseIdx ix).map ptrV)) ∧ Hid (Below RB WO w4)) (fun _ jv _ => K + 1 - (intOf jv).toNat)
                case atStart => exact ⟨0, 0, by omega, rfl, rfl, by simp [Hid], by simpa using OW0, BL0⟩
                case round =>
                  obtain ⟨j, r, hj, rfl, rfl, hr, hown, hbl⟩ := hrel
                  clear OW0 BL0 x1 hRB
                  by_cases hjk : j < K + 1
                  · have x3 : wr.cell? ⟨lb, j, none⟩ = some (.pointer (some ⟨ls.getD j 0, 0, none⟩)) := (hbl.out.cell (p := ⟨lb, j, none⟩) LBR.out).trans (hOL.out.row.cell hjk)
                    have hjl : j < ls.length := by have := hOL.out.len; omega
                    obtain ⟨o, ho⟩ : ∃ o, ls.getD j 0 = o := ⟨_, rfl⟩
                    rw [ho] at x3
                    by_cases hji : j = ix
                    · have tj : ((j : Int) != (ix : Int)) = false := by rw [hji]; simp
                      have F1 : Hid (((ls.take (j + 1)).eraseIdx ix).length = r) := by rw [← hji, erase_step_eq hjl]; rw [← hji] at hr; exact hr
                      have F2 : Hid (wr.ownsRow RB 45 1 (.slice (some ⟨RB, 0, none⟩) r K) r (((ls.take (j + 1)).eraseIdx ix).map ptrV)) := by rw [← hji, erase_step_eq hjl]; rw [← hji] at hown; exact hown
                      clear hji ho
                      go_wp2
                      go_roundw
                      case rel => exact ⟨j + 1, r, by omega, by go_num, rfl, F1, F2, hbl⟩
                      case measure => simp [intOf]; omega
                    · have tj : ((j : Int) != (ix : Int)) = true := by simp; omega
                      have hrn : r = if ix < j then j - 1 else j := by rw [← hr.out]; exact erase_len (by omega)
                      have hrK : r + 1 ≤ K := by rw [hrn]; split <;> omega
                      have ES : Hid ((ls.take (j + 1)).eraseIdx ix = (ls.take j).eraseIdx ix ++ [o]) := by rw [← ho]; exact erase_step_ne hjl hji
                      obtain ⟨i45, hi45, hzz⟩ := Option.map_eq_some_iff.1 Ybad.info45
                      simp only [Prod.mk.injEq] at hzz
                      obtain ⟨hz45, hs45, hb45⟩ := hzz
                      clear hji ho hrn hb45
                      go_wp2_with ((at_builtin; refine wpList_append_fits _ rfl (.tmp 118) (.tmp 120) 44 rfl RB 45 i45 1 Ybad.under44 hi45 hs45 RB r K _ rfl (hown.out.alloc _) ⟨wr.heap.size, 0, none⟩ 1 1 [ptrV o] rfl rfl (by intro t u ht; match t, ht with | 0, ht => simp at ht; subst ht; simp [Addr.add, ptrV]) (by intro u hu; simp at hu; subst hu; rfl) (by omega) ?_; intro w5 ho5 hgr5))
                      have G1 : Hid (((ls.take (j + 1)).eraseIdx ix).length = r + 1) := by rw [ES.out, List.length_append, hr.out]; rfl
                      have G2 : Hid (w5.ownsRow RB 45 1 (.slice (some ⟨RB, 0, none⟩) (r + 1) K) (r + 1) (((ls.take (j + 1)).eraseIdx ix).map ptrV)) := by rw [ES.out, List.map_append]; exact ho5
                      have szr : RB ≤ wr.heap.size := by have := hbl.out.size; have := HRB.out; omega
                      have G3 : Hid (Below RB WO w5) := (hbl.out.alloc szr _).grown hgr5 (by rw [World.size_alloc]; omega) (fun k h => by cases h; exact Nat.le_refl _)
                      clear ho5 hgr5 szr
                      go_roundw
                      case rel => exact ⟨j + 1, r + 1, by omega, by go_num, rfl, G1, G2, G3⟩
                      case measure => simp [intOf]; omega
                  · have hjK : j = K + 1 := by omega
                    have hrK : r = K := by have h1 := hr.out; rw [erase_len (by have := hOL.out.len; omega)] at h1; rw [if_pos (by omega)] at h1; omega
                    have hfull : ls.take j = ls := List.take_of_length_le (by have := hOL.out.len; omega)
                    have RROW : Hid (wr.rowIs RB 45 K (fun q => ptrV ((ls.eraseIdx ix).getD q 0))) := by
                      have h1 := hr.out
                      have h2 := hown.out
                      rw [hfull, hrK] at h1 h2
                      exact own_row h2 h1
                    have HLEN : Hid ((ls.eraseIdx ix).length = K) := by have h1 := hr.out; rw [hfull, hrK] at h1; exact h1
                    have WH4 : Hid (Wh wr w.heap.size L N n' ((K + 1 : Nat) : Int) (entD (dueOf DS) BE) (entE BE n) (fun x => x ∈ ls)) := hOL.out.wh.of_old (fun k hk => hbl.out.block k (by have := HRB.out; omega))
                    have BEL4 : Hid (Below w.heap.size w wr) := hOL.out.bel.trans (hbl.out.mono (by have := HRB.out; have := hOL.out.bel.size; omega))
                    subst hrK
                    obtain ⟨g1, g2, l, g3, g4⟩ := LEVE.out e HE.out.2.2
                    obtain ⟨d, hd⟩ : ∃ d, entD (dueOf DS) BE e = d := ⟨_, rfl⟩
                    have CU : Hid (Calls Ybad.prog 14 #[.pointer (some ⟨L, 0, none⟩), .pointer (some ⟨e, 0, none⟩)] wr (UnlinkPost wr w.heap.size L N n' l e ((r + 1 : Nat) : Int) (entD (dueOf DS) BE) (entE BE n) (fun x => x ∈ ls))) :=
                      unlink_ok WH4.out HG.out hN64 HE.out.2.1 g1 g2 g4 g3 (by omega) (by omega)
                    rw [hd] at g1 g2 g4
                    obtain ⟨t, ht⟩ : ∃ t, d / N ^ l = t := ⟨_, rfl⟩
                    obtain ⟨st', hst'⟩ : ∃ st', t * N ^ l = st' := ⟨_, rfl⟩
                    have htN : t < N := by rw [← ht]; exact (g4.digit hN2).2
                    have HD : Hid (entD (dueOf DS) BE e = d ∧ IsLev N d l ∧ d / N ^ l = t ∧ d / N ^ l * N ^ l = st' ∧ 1 ≤ d ∧ d < 18446744073709551616) := ⟨hd, g4, ht, by rw [ht]; exact hst', g1, g2⟩
                    have VV : Hid (∀ x, x ∈ ls ∧ x ≠ e ↔ x ∈ ls.eraseIdx ix) := by
                      intro x
                      rw [← HE.out.1]
                      exact (erase_mem hixl hOL.out.nd x).symm
                    clear hd g1 g2 g4 ht hst' hjK hfull hown hr hbl
                    go_wp2_with fail
                    refine CU.out.mono ?_
                    rintro x W5 ⟨b, rfl, hb, hW5, k5⟩
                    rw [HD.out.1, HD.out.2.2.2.1]
                    rw [HD.out.1, HD.out.2.2.1, Shares.cv VV.out] at hb
                    rw [show (((r + 1 : Nat) : Int) - 1) = (r : Nat) by omega] at hW5
                    have HW5 : Hid (Wh W5 w.heap.size L N n' (r : Nat) (entD (dueOf DS) BE) (entE BE n) (fun x => x ∈ ls.eraseIdx ix)) := hW5.cv VV.out
                    have HB : Hid (b = true ↔ ¬ Shares N (entD (dueOf DS) BE) (fun x => x ∈ ls.eraseIdx ix) l t) := hb
                    have RROW5 : Hid (W5.rowIs RB 45 r (fun q => ptrV ((ls.eraseIdx ix).getD q 0))) := RROW.out.of_block (k5.typ _ _ (IsB.of_row RROW.out))
                    have BEL5 : Hid (Below w.heap.size w W5) := BEL4.out.trans k5.below
                    have x2 := HW5.out.due HE.out.2.2
                    rw [HD.out.1] at x2
                    have CW : Hid (Calls Ybad.prog 15 #[.int .u64 N, .int .u64 d] W5 fun e w' => e = .returned (.tuple #[.int .i64 l, .int .u64 t, .int .u64 st']) ∧ w' = W5) := by
                      have := where_any N d l W5 hN2 hN100 HD.out.2.2.2.2.2 HD.out.2.1
                      rw [HD.out.2.2.2.1, HD.out.2.2.1] at this
                      exact this
                    clear hW5 hb k5 CU WH4 BEL4 RROW
                    go_wp2_with fail
                    refine CW.out.mono ?_
                    rintro x W6 ⟨rfl, rfl⟩
                    clear CW
                    go_wp2_with fail
                    have hnd' : Hid ((ls.eraseIdx ix).Nodup ∧ ∀ x, x ∈ ls.eraseIdx ix → entE BE n x) := ⟨erase_nodup hOL.out.nd, fun x hx => hOL.out.en x ((VV.out x).2 hx).1⟩
                    have NE : Hid (¬ e ∈ ls.eraseIdx ix) := fun h => ((VV.out e).2 h).2 rfl
                    obtain ⟨ls', hls'⟩ : ∃ ls', ls.eraseIdx ix = ls' := ⟨_, rfl⟩
                    rw [hls'] at hnd' HB HW5 RROW5 HLEN NE
                    clear hls' VV hOL HRB
                    go_loop [29, 144] (fun sv iv => ∃ (j : Nat) (sh : Bool), j ≤ r ∧ sv = .bool sh ∧ iv = .int .i64 j ∧ Hid (sh = true ↔ ∃ q, q < j ∧ IsLev N (entD (dueOf DS) BE (ls'.getD q 0)) l ∧ entD (dueOf DS) BE (ls'.getD q 0) / N ^ l = t)) (fun _ iv => r - (intOf iv).toNat)
                    case atStart => exact ⟨0, false, by omega, rfl, rfl, ⟨fun h => (by cases h), fun ⟨i, h, _⟩ => (by omega)⟩⟩
                    case round =>
                      obtain ⟨j, sh, hj, rfl, rfl, hsh⟩ := hrel
                      by_cases hjn : j < r
                      · have x5 : W6.cell? ⟨RB, j, none⟩ = some (.pointer (some ⟨ls'.getD j 0, 0, none⟩)) := RROW5.out.cell hjn
                        have hoin : ls'.getD j 0 ∈ ls' := by
                          have hl' : j < ls'.length := by have := HLEN.out; omega
                          rw [List.getD_eq_getElem?_getD, List.getElem?_eq_getElem hl']; exact List.getElem_mem hl'
                        have Eo := hnd'.out.2 _ hoin
                        obtain ⟨o, ho⟩ : ∃ o, ls'.getD j 0 = o := ⟨_, rfl⟩
                        rw [ho] at x5 Eo
                        have x6 := HW5.out.due Eo
                        obtain ⟨q1, q2, l', q3, q4⟩ := LEVE.out o Eo
                        obtain ⟨d', hd'⟩ : ∃ d', entD (dueOf DS) BE o = d' := ⟨_, rfl⟩
                        rw [hd'] at x6 q1 q2 q4
                        have CW : Hid (Calls Ybad.prog 15 #[.int .u64 N, .int .u64 d'] W6 fun e w' => e = .returned (.tuple #[.int .i64 l', .int .u64 ((d' / N ^ l' : Nat) : Int), .int .u64 ((d' / N ^ l' * N ^ l' : Nat) : Int)]) ∧ w' = W6) := where_any N d' l' W6 hN2 hN100 q2 q4
                        obtain ⟨t', ht'⟩ : ∃ t', d' / N ^ l' = t' := ⟨_, rfl⟩
                        obtain ⟨s2, hs2⟩ : ∃ s2, t' * N ^ l' = s2 := ⟨_, rfl⟩
                        rw [ht', hs2] at CW
                        have IFF : Hid (s2 = st' ↔ IsLev N (entD (dueOf DS) BE (ls'.getD j 0)) l ∧ entD (dueOf DS) BE (ls'.getD j 0) / N ^ l = t) := by
                          have := start_iff hN2 q4 HD.out.2.1
                          rw [ht', hs2, HD.out.2.2.2.1, HD.out.2.2.1] at this
                          show s2 = st' ↔ _
                          rw [this, ho, hd']
                          constructor
                          · rintro ⟨rfl, h2⟩; exact ⟨q4, by rw [ht']; exact h2⟩
                          · rintro ⟨h1, h2⟩
                            have := IsLev.unique hN2 q4 h1
                            subst this
                            exact ⟨rfl, by rw [← ht']; exact h2⟩
                        clear q1 q2 q4 ht' hs2 hd' ho hoin Eo
                        by_cases hs : s2 = st'
                        · have F : Hid (∃ q, q < j + 1 ∧ IsLev N (entD (dueOf DS) BE (ls'.getD q 0)) l ∧ entD (dueOf DS) BE (ls'.getD q 0) / N ^ l = t) := ⟨j, by omega, IFF.out.1 hs⟩
                          have ts : ((s2 : Int) == (st' : Int)) = true := beq_iff_eq.2 (by omega)
                          clear hs
                          go_wp2_with fail
                          refine CW.out.mono ?_
                          rintro x W6 ⟨rfl, rfl⟩
                          go_wp2
                          go_round
                          case rel => exact ⟨j + 1, true, by omega, rfl, by go_num, ⟨fun _ => F.out, fun _ => rfl⟩⟩
                          case measure => simp [intOf]; omega
                        · have F : Hid (sh = true ↔ ∃ q, q < j + 1 ∧ IsLev N (entD (dueOf DS) BE (ls'.getD q 0)) l ∧ entD (dueOf DS) BE (ls'.getD q 0) / N ^ l = t) :=
                            hsh.out.trans ⟨fun ⟨i, a, b⟩ => ⟨i, by omega, b⟩, fun ⟨i, a, b⟩ => ⟨i, by
                              have hij : i ≠ j := fun h => hs (IFF.out.2 (h ▸ b))
                              omega, b⟩⟩
                          have ts : ((s2 : Int) == (st' : Int)) = false := beq_eq_false_iff_ne.2 (by omega)
                          clear hs
                          go_wp2_with fail
                          refine CW.out.mono ?_
                          rintro x W6 ⟨rfl, rfl⟩
                          go_wp2
                          go_round
                          case rel => exact ⟨j + 1, sh, by omega, rfl, by go_num, F⟩
                          case measure => simp [intOf]; omega
                      · have hjn' : j = r := by omega
                        have SHR : ShIs sh (Shares N (entD (dueOf DS) BE) (fun x => x ∈ ls') l t) := by
                          show sh = true ↔ _
                          rw [hsh.out, hjn']
                          constructor
                          · rintro ⟨q, a, c1⟩
                            have hl' : q < ls'.length := by have := HLEN.out; omega
                            exact ⟨ls'.getD q 0, by rw [List.getD_eq_getElem?_getD, List.getElem?_eq_getElem hl']; exact List.getElem_mem hl', c1⟩
                          · rintro ⟨x, hx, c1⟩
                            obtain ⟨q, hq, rfl⟩ := List.mem_iff_getElem.1 hx
                            refine ⟨q, by have := HLEN.out; omega, ?_⟩
                            rw [List.getD_eq_getElem?_getD, List.getElem?_eq_getElem hq]
                            exact c1
                        have hb := HB.out
                        rw [← (show _ = true ↔ _ from SHR)] at hb
                        obtain rfl : b = !sh := bool_not hb
                        have c71 := HW5.out.count.1
                        obtain ⟨x7, x8⟩ := HW5.out.free HE.out.2.2 NE.out
                        have HO : Hid (Calls Ybad.prog 10 #[.pointer (some ⟨L, 0, none⟩), .int .i64 l, .int .u64 t] W6 fun x w' => x = .returned (.bool sh) ∧ w' = W6) := by
                          refine (holds_wh HW5.out hN64 g3 htN).mono ?_
                          rintro x w' ⟨⟨b, hx, hb⟩, hw⟩
                          obtain rfl := bool_same hb SHR
                          exact ⟨hx, hw⟩
                        have OLN : Hid (OL w W6 L N n' n BE RB r (dueOf DS) ls') := ⟨HLEN.out, hnd'.out.1, hnd'.out.2, RROW5.out, HW5.out, BEL5.out⟩
                        clear hb HB hsh hjn' SHR
                        cases sh
                        · go_wp2_with (go_at_call 10; refine HO.out.mono ?_; rintro x W6 ⟨rfl, rfl⟩)
                          go_roundw
                          case rel => exact ⟨ls', RB, r, st + 1, rfl, by go_num, by omega, OLN⟩
                          case measure => simp [intOf]; omega
                        · go_wp2_with (go_at_call 10; refine HO.out.mono ?_; rintro x W6 ⟨rfl, rfl⟩)
                          go_roundw
                          case rel => exact ⟨ls', RB, r, st + 1, rfl, by go_num, by omega, OLN⟩
                          case measure => simp [intOf]; omega
              · have hix : 0 < K + 1 := by omega
                have z1 : ((0 : Int) % ((K : Int) + 1)) = 0 := by simp
                obtain ⟨WO, hWO⟩ : ∃ WO, WO = wr := ⟨_, rfl⟩
                subst hWO
                have hixl : 0 < ls.length := by have := hOL.out.len; omega
                obtain ⟨e, he⟩ : ∃ e, ls.getD 0 0 = e := ⟨_, rfl⟩
                have x1 : WO.cell? ⟨lb, 0, none⟩ = some (.pointer (some ⟨e, 0, none⟩)) := by have := hOL.out.row.cell hix; rw [he] at this; exact this
                have HE : Hid (ls.getD 0 0 = e ∧ e ∈ ls ∧ entE BE n e) := by
                  have hmem : e ∈ ls := by rw [← he, List.getD_eq_getElem?_getD, List.getElem?_eq_getElem hixl]; exact List.getElem_mem hixl
                  exact ⟨he, hmem, hOL.out.en e hmem⟩
                obtain ⟨RB, hRB⟩ : ∃ RB, WO.heap.size = RB := ⟨_, rfl⟩
                have OW0 : Hid ((WO.alloc (.cells (madeCells #[.pointer none] K) 45)).ownsRow RB 45 1 (.slice (some ⟨RB, 0, none⟩) 0 K) 0 ([].map ptrV)) := by rw [← hRB]; exact own_start WO K (by unfold maxLen; omega)
                have BL0 : Hid (Below RB WO (WO.alloc (.cells (madeCells #[.pointer none] K) 45))) := by rw [← hRB]; exact (Below.refl _ _).alloc (Nat.le_refl _) _
                have HRB : Hid (WO.heap.size = RB) := hRB
                have LBR : Hid (lb < RB) := by show lb < RB; rw [← hRB]; exact hOL.out.row.lt
                clear he
                go_wp2_with fail
                try rw [z1]
                clear z1
                go_loopw [21, 110] (fun rv jv w4 => ∃ j r : Nat, j ≤ K + 1 ∧ jv = .int .i64 j ∧ rv = .slice (some ⟨RB, 0, none⟩) r K ∧ Hid (((ls.take j).eraseIdx 0).length = r) ∧ Hid (w4.ownsRow RB 45 1 (.slice (some ⟨RB, 0, none⟩) r K) r (((ls.take j).eraseIdx 0).map ptrV)) ∧ Hid (Below RB WO w4)) (fun _ jv _ => K + 1 - (intOf jv).toNat)
                case atStart => exact ⟨0, 0, by omega, rfl, rfl, by simp [Hid], by simpa using OW0, BL0⟩
                case round =>
                  obtain ⟨j, r, hj, rfl, rfl, hr, hown, hbl⟩ := hrel
                  clear OW0 BL0 x1 hRB
                  by_cases hjk : j < K + 1
                  · have x3 : wr.cell? ⟨lb, j, none⟩ = some (.pointer (some ⟨ls.getD j 0, 0, none⟩)) := (hbl.out.cell (p := ⟨lb, j, none⟩) LBR.out).trans (hOL.out.row.cell hjk)
                    have hjl : j < ls.length := by have := hOL.out.len; omega
                    obtain ⟨o, ho⟩ : ∃ o, ls.getD j 0 = o := ⟨_, rfl⟩
                    rw [ho] at x3
                    by_cases hji : j = 0
                    · have tj : ((j : Int) != (0 : Int)) = false := by rw [hji]; simp
                      have F1 : Hid (((ls.take (j + 1)).eraseIdx 0).length = r) := by rw [← hji, erase_step_eq hjl]; rw [← hji] at hr; exact hr
                      have F2 : Hid (wr.ownsRow RB 45 1 (.slice (some ⟨RB, 0, none⟩) r K) r (((ls.take (j + 1)).eraseIdx 0).map ptrV)) := by rw [← hji, erase_step_eq hjl]; rw [← hji] at hown; exact hown
                      clear hji ho
                      go_wp2
                      go_roundw
                      case rel => exact ⟨j + 1, r, by omega, by go_num, rfl, F1, F2, hbl⟩
                      case measure => simp [intOf]; omega
                    · have tj : ((j : Int) != (0 : Int)) = true := by simp; omega
                      have hrn : r = if 0 < j then j - 1 else j := by rw [← hr.out]; exact erase_len (by omega)
                      have hrK : r + 1 ≤ K := by rw [hrn]; split <;> omega
                      have ES : Hid ((ls.take (j + 1)).eraseIdx 0 = (ls.take j).eraseIdx 0 ++ [o]) := by rw [← ho]; exact erase_step_ne hjl hji
                      obtain ⟨i45, hi45, hzz⟩ := Option.map_eq_some_iff.1 Ybad.info45
                      simp only [Prod.mk.injEq] at hzz
                      obtain ⟨hz45, hs45, hb45⟩ := hzz
                      clear hji ho hrn hb45
                      go_wp2_with ((at_builtin; refine wpList_append_fits _ rfl (.tmp 118) (.tmp 120) 44 rfl RB 45 i45 1 Ybad.under44 hi45 hs45 RB r K _ rfl (hown.out.alloc _) ⟨wr.heap.size, 0, none⟩ 1 1 [ptrV o] rfl rfl (by intro t u ht; match t, ht with | 0, ht => simp at ht; subst ht; simp [Addr.add, ptrV]) (by intro u hu; simp at hu; subst hu; rfl) (by omega) ?_; intro w5 ho5 hgr5))
                      have G1 : Hid (((ls.take (j + 1)).eraseIdx 0).length = r + 1) := by rw [ES.out, List.length_append, hr.out]; rfl
                      have G2 : Hid (w5.ownsRow RB 45 1 (.slice (some ⟨RB, 0, none⟩) (r + 1) K) (r + 1) (((ls.take (j + 1)).eraseIdx 0).map ptrV)) := by rw [ES.out, List.map_append]; exact ho5
                      have szr : RB ≤ wr.heap.size := by have := hbl.out.size; have := HRB.out; omega
                      have G3 : Hid (Below RB WO w5) := (hbl.out.alloc szr _).grown hgr5 (by rw [World.size_alloc]; omega) (fun k h => by cases h; exact Nat.le_refl _)
                      clear ho5 hgr5 szr
                      go_roundw
                      case rel => exact ⟨j + 1, r + 1, by omega, by go_num, rfl, G1, G2, G3⟩
                      case measure => simp [intOf]; omega
                  · have hjK : j = K + 1 := by omega
                    have hrK : r = K := by have h1 := hr.out; rw [erase_len (by have := hOL.out.len; omega)] at h1; rw [if_pos (by omega)] at h1; omega
                    have hfull : ls.take j = ls := List.take_of_length_le (by have := hOL.out.len; omega)
                    have RROW : Hid (wr.rowIs RB 45 K (fun q => ptrV ((ls.eraseIdx 0).getD q 0))) := by
                      have h1 := hr.out
                      have h2 := hown.out
                      rw [hfull, hrK] at h1 h2
                      exact own_row h2 h1
                    have HLEN : Hid ((ls.eraseIdx 0).length = K) := by have h1 := hr.out; rw [hfull, hrK] at h1; exact h1
                    have WH4 : Hid (Wh wr w.heap.size L N n' ((K + 1 : Nat) : Int) (entD (dueOf DS) BE) (entE BE n) (fun x => x ∈ ls)) := hOL.out.wh.of_old (fun k hk => hbl.out.block k (by have := HRB.out; omega))
                    have BEL4 : Hid (Below w.heap.size w wr) := hOL.out.bel.trans (hbl.out.mono (by have := HRB.out; have := hOL.out.bel.size; omega))
                    subst hrK
                    obtain ⟨g1, g2, l, g3, g4⟩ := LEVE.out e HE.out.2.2
                    obtain ⟨d, hd⟩ : ∃ d, entD (dueOf DS) BE e = d := ⟨_, rfl⟩
                    have CU : Hid (Calls Ybad.prog 14 #[.pointer (some ⟨L, 0, none⟩), .pointer (some ⟨e, 0, none⟩)] wr (UnlinkPost wr w.heap.size L N n' l e ((r + 1 : Nat) : Int) (entD (dueOf DS) BE) (entE BE n) (fun x => x ∈ ls))) :=
                      unlink_ok WH4.out HG.out hN64 HE.out.2.1 g1 g2 g4 g3 (by omega) (by omega)
                    rw [hd] at g1 g2 g4
                    obtain ⟨t, ht⟩ : ∃ t, d / N ^ l = t := ⟨_, rfl⟩
                    obtain ⟨st', hst'⟩ : ∃ st', t * N ^ l = st' := ⟨_, rfl⟩
                    have htN : t < N := by rw [← ht]; exact (g4.digit hN2).2
                    have HD : Hid (entD (dueOf DS) BE e = d ∧ IsLev N d l ∧ d / N ^ l = t ∧ d / N ^ l * N ^ l = st' ∧ 1 ≤ d ∧ d < 18446744073709551616) := ⟨hd, g4, ht, by rw [ht]; exact hst', g1, g2⟩
                    have VV : Hid (∀ x, x ∈ ls ∧ x ≠ e ↔ x ∈ ls.eraseIdx 0) := by
                      intro x
                      rw [← HE.out.1]
                      exact (erase_mem hixl hOL.out.nd x).symm
                    clear hd g1 g2 g4 ht hst' hjK hfull hown hr hbl
                    go_wp2_with fail
                    refine CU.out.mono ?_
                    rintro x W5 ⟨b, rfl, hb, hW5, k5⟩
                    rw [HD.out.1, HD.out.2.2.2.1]
                    rw [HD.out.1, HD.out.2.2.1, Shares.cv VV.out] at hb
                    rw [show (((r + 1 : Nat) : Int) - 1) = (r : Nat) by omega] at hW5
                    have HW5 : Hid (Wh W5 w.heap.size L N n' (r : Nat) (entD (dueOf DS) BE) (entE BE n) (fun x => x ∈ ls.eraseIdx 0)) := hW5.cv VV.out
                    have HB : Hid (b = true ↔ ¬ Shares N (entD (dueOf DS) BE) (fun x => x ∈ ls.eraseIdx 0) l t) := hb
                    have RROW5 : Hid (W5.rowIs RB 45 r (fun q => ptrV ((ls.eraseIdx 0).getD q 0))) := RROW.out.of_block (k5.typ _ _ (IsB.of_row RROW.out))
                    have BEL5 : Hid (Below w.heap.size w W5) := BEL4.out.trans k5.below
                    have x2 := HW5.out.due HE.out.2.2
                    rw [HD.out.1] at x2
                    have CW : Hid (Calls Ybad.prog 15 #[.int .u64 N, .int .u64 d] W5 fun e w' => e = .returned (.tuple #[.int .i64 l, .int .u64 t, .int .u64 st']) ∧ w' = W5) := by
                      have := where_any N d l W5 hN2 hN100 HD.out.2.2.2.2.2 HD.out.2.1
                      rw [HD.out.2.2.2.1, HD.out.2.2.1] at this
                      exact this
                    clear hW5 hb k5 CU WH4 BEL4 RROW
                    go_wp2_with fail
                    refine CW.out.mono ?_
                    rintro x W6 ⟨rfl, rfl⟩
                    clear CW
                    go_wp2_with fail
                    have hnd' : Hid ((ls.eraseIdx 0).Nodup ∧ ∀ x, x ∈ ls.eraseIdx 0 → entE BE n x) := ⟨erase_nodup hOL.out.nd, fun x hx => hOL.out.en x ((VV.out x).2 hx).1⟩
                    have NE : Hid (¬ e ∈ ls.eraseIdx 0) := fun h => ((VV.out e).2 h).2 rfl
                    obtain ⟨ls', hls'⟩ : ∃ ls', ls.eraseIdx 0 = ls' := ⟨_, rfl⟩
                    rw [hls'] at hnd' HB HW5 RROW5 HLEN NE
                    clear hls' VV hOL HRB
                    go_loop [29, 144] (fun sv iv => ∃ (j : Nat) (sh : Bool), j ≤ r ∧ sv = .bool sh ∧ iv = .int .i64 j ∧ Hid (sh = true ↔ ∃ q, q < j ∧ IsLev N (entD (dueOf DS) BE (ls'.getD q 0)) l ∧ entD (dueOf DS) BE (ls'.getD q 0) / N ^ l = t)) (fun _ iv => r - (intOf iv).toNat)
                    case atStart => exact ⟨0, false, by omega, rfl, rfl, ⟨fun h => (by cases h), fun ⟨i, h, _⟩ => (by omega)⟩⟩
                    case round =>
                      obtain ⟨j, sh, hj, rfl, rfl, hsh⟩ := hrel
                      by_cases hjn : j < r
                      · have x5 : W6.cell? ⟨RB, j, none⟩ = some (.pointer (some ⟨ls'.getD j 0, 0, none⟩)) := RROW5.out.cell hjn
                        have hoin : ls'.getD j 0 ∈ ls' := by
                          have hl' : j < ls'.length := by have := HLEN.out; omega
                          rw [List.getD_eq_getElem?_getD, List.getElem?_eq_getElem hl']; exact List.getElem_mem hl'
                        have Eo := hnd'.out.2 _ hoin
                        obtain ⟨o, ho⟩ : ∃ o, ls'.getD j 0 = o := ⟨_, rfl⟩
                        rw [ho] at x5 Eo
                        have x6 := HW5.out.due Eo
                        obtain ⟨q1, q2, l', q3, q4⟩ := LEVE.out o Eo
                        obtain ⟨d', hd'⟩ : ∃ d', entD (dueOf DS) BE o = d' := ⟨_, rfl⟩
                        rw [hd'] at x6 q1 q2 q4
                        have CW : Hid (Calls Ybad.prog 15 #[.int .u64 N, .int .u64 d'] W6 fun e w' => e = .returned (.tuple #[.int .i64 l', .int .u64 ((d' / N ^ l' : Nat) : Int), .int .u64 ((d' / N ^ l' * N ^ l' : Nat) : Int)]) ∧ w' = W6) := where_any N d' l' W6 hN2 hN100 q2 q4
                        obtain ⟨t', ht'⟩ : ∃ t', d' / N ^ l' = t' := ⟨_, rfl⟩
                        obtain ⟨s2, hs2⟩ : ∃ s2, t' * N ^ l' = s2 := ⟨_, rfl⟩
                        rw [ht', hs2] at CW
                        have IFF : Hid (s2 = st' ↔ IsLev N (entD (dueOf DS) BE (ls'.getD j 0)) l ∧ entD (dueOf DS) BE (ls'.getD j 0) / N ^ l = t) := by
                          have := start_iff hN2 q4 HD.out.2.1
                          rw [ht', hs2, HD.out.2.2.2.1, HD.out.2.2.1] at this
                          show s2 = st' ↔ _
                          rw [this, ho, hd']
                          constructor
                          · rintro ⟨rfl, h2⟩; exact ⟨q4, by rw [ht']; exact h2⟩
                          · rintro ⟨h1, h2⟩
                            have := IsLev.unique hN2 q4 h1
                            subst this
                            exact ⟨rfl, by rw [← ht']; exact h2⟩
                        clear q1 q2 q4 ht' hs2 hd' ho hoin Eo
                        by_cases hs : s2 = st'
                        · have F : Hid (∃ q, q < j + 1 ∧ IsLev N (entD (dueOf DS) BE (ls'.getD q 0)) l ∧ entD (dueOf DS) BE (ls'.getD q 0) / N ^ l = t) := ⟨j, by omega, IFF.out.1 hs⟩
                          have ts : ((s2 : Int) == (st' : Int)) = true := beq_iff_eq.2 (by omega)
                          clear hs
                          go_wp2_with fail
                          refine CW.out.mono ?_
                          rintro x W6 ⟨rfl, rfl⟩
                          go_wp2
                          go_round
                          case rel => exact ⟨j + 1, true, by omega, rfl, by go_num, ⟨fun _ => F.out, fun _ => rfl⟩⟩
                          case measure => simp [intOf]; omega
                        · have F : Hid (sh = true ↔ ∃ q, q < j + 1 ∧ IsLev N (entD (dueOf DS) BE (ls'.getD q 0)) l ∧ entD (dueOf DS) BE (ls'.getD q 0) / N ^ l = t) :=
                            hsh.out.trans ⟨fun ⟨i, a, b⟩ => ⟨i, by omega, b⟩, fun ⟨i, a, b⟩ => ⟨i, by
                              have hij : i ≠ j := fun h => hs (IFF.out.2 (h ▸ b))
                              omega, b⟩⟩
                          have ts : ((s2 : Int) == (st' : Int)) = false := beq_eq_false_iff_ne.2 (by omega)
                          clear hs
                          go_wp2_with fail
                          refine CW.out.mono ?_
                          rintro x W6 ⟨rfl, rfl⟩
                          go_wp2
                          go_round
                          case rel => exact ⟨j + 1, sh, by omega, rfl, by go_num, F⟩
                          case measure => simp [intOf]; omega
                      · have hjn' : j = r := by omega
                        have SHR : ShIs sh (Shares N (entD (dueOf DS) BE) (fun x => x ∈ ls') l t) := by
                          show sh = true ↔ _
                          rw [hsh.out, hjn']
                          constructor
                          · rintro ⟨q, a, c1⟩
                            have hl' : q < ls'.length := by have := HLEN.out; omega
                            exact ⟨ls'.getD q 0, by rw [List.getD_eq_getElem?_getD, List.getElem?_eq_getElem hl']; exact List.getElem_mem hl', c1⟩
                          · rintro ⟨x, hx, c1⟩
                            obtain ⟨q, hq, rfl⟩ := List.mem_iff_getElem.1 hx
                            refine ⟨q, by have := HLEN.out; omega, ?_⟩
                            rw [List.getD_eq_getElem?_getD, List.getElem?_eq_getElem hq]
                            exact c1
                        have hb := HB.out
                        rw [← (show _ = true ↔ _ from SHR)] at hb
                        obtain rfl : b = !sh := bool_not hb
                        have c71 := HW5.out.count.1
                        obtain ⟨x7, x8⟩ := HW5.out.free HE.out.2.2 NE.out
                        have HO : Hid (Calls Ybad.prog 10 #[.pointer (some ⟨L, 0, none⟩), .int .i64 l, .int .u64 t] W6 fun x w' => x = .returned (.bool sh) ∧ w' = W6) := by
                          refine (holds_wh HW5.out hN64 g3 htN).mono ?_
                          rintro x w' ⟨⟨b, hx, hb⟩, hw⟩
                          obtain rfl := bool_same hb SHR
                          exact ⟨hx, hw⟩
                        have OLN : Hid (OL w W6 L N n' n BE RB r (dueOf DS) ls') := ⟨HLEN.out, hnd'.out.1, hnd'.out.2, RROW5.out, HW5.out, BEL5.out⟩
                        clear hb HB hsh hjn' SHR
                        cases sh
                        · go_wp2_with (go_at_call 10; refine HO.out.mono ?_; rintro x W6 ⟨rfl, rfl⟩)
                          go_roundw
                          case rel => exact ⟨ls', RB, r, st + 1, rfl, by go_num, by omega, OLN⟩
                          case measure => simp [intOf]; omega
                        · go_wp2_with (go_at_call 10; refine HO.out.mono ?_; rintro x W6 ⟨rfl, rfl⟩)
                          go_roundw
                          case rel => exact ⟨ls', RB, r, st + 1, rfl, by go_num, by omega, OLN⟩
                          case measure => simp [intOf]; omega
            · have hk0 : k = 0 := by omega
              subst hk0
              have hnil : ls = [] := List.eq_nil_of_length_eq_zero hOL.out.len
              have c69 := busy_wh hOL.out.wh (fun x hx => by rw [hnil] at hx; simp at hx)
              have BF : Hid (Below w.heap.size w wr) := hOL.out.bel
              clear hnil hOL
              go_wp2
              go_ret
              exact ⟨rfl, BF.out⟩
end Go.Proofs.YbulkajrsDoor
