import Derived.Test.YbulkajrsDoorMake
namespace Go.Proofs.YbulkajrsDoor
open Go.RowKit
set_option linter.unusedVariables false

theorem pow_bound (N k : Nat) (hN : 2 ≤ N) (h : N ^ k < 18446744073709551616) : k < 64 := by
  apply Nat.lt_of_not_le; intro hle
  have h1 : 2 ^ 64 ≤ 2 ^ k := Nat.pow_le_pow_right (by omega) hle
  have h2 : 2 ^ k ≤ N ^ k := Nat.pow_le_pow_left hN k
  have h64 : (2 : Nat) ^ 64 = 18446744073709551616 := by decide
  omega
theorem top_over (N k T : Nat) (hN : 2 ≤ N) (h : T = N ^ k) (hgt : 18446744073709551615 / N < T) : 18446744073709551616 < N ^ (k + 1) + 1 := by
  rw [Nat.pow_succ, ← h]
  have := Nat.div_add_mod 18446744073709551615 N
  have := Nat.mod_lt 18446744073709551615 (show 0 < N by omega)
  have h2 : N * (18446744073709551615 / N + 1) ≤ N * T := Nat.mul_le_mul_left N hgt
  rw [Nat.mul_add, Nat.mul_one] at h2
  rw [Nat.mul_comm T N]
  omega
theorem top_next (N k T : Nat) (hN : 2 ≤ N) (h : T = N ^ k) (hle : T ≤ 18446744073709551615 / N) : T * N < 18446744073709551616 ∧ k + 1 ≤ 63 := by
  have h1 : T * N < 18446744073709551616 := by
    have := Nat.div_mul_le_self 18446744073709551615 N
    have := Nat.mul_le_mul_right N hle
    omega
  refine ⟨h1, ?_⟩
  have := pow_bound N (k + 1) hN (by rw [Nat.pow_succ, ← h]; exact h1)
  omega

/-- Nothing but block L has turned. -/
structure OnlyAt (L : Nat) (w w' : World) : Prop where
  os : w'.os = w.os
  tape : w'.tape = w.tape
  output : w'.output = w.output
  size : w'.heap.size = w.heap.size
  block : ∀ k, k ≠ L → w'.heap[k]? = w.heap[k]?
theorem OnlyAt.refl (L : Nat) (w : World) : OnlyAt L w w := ⟨rfl, rfl, rfl, rfl, fun _ _ => rfl⟩
theorem OnlyAt.setCell {L : Nat} {w w' : World} (h : OnlyAt L w w') (i : Nat) (v : Value) : OnlyAt L w (w'.setCell ⟨L, i, none⟩ v) :=
  ⟨h.os, h.tape, h.output, by simp [h.size], fun k hk => (heap_setCell_other _ _ _ _ hk).trans (h.block k hk)⟩

/-- What newLevels hands back. -/
def NewPost (N last : Nat) (w : World) (S : Nat → Nat → Nat → Nat → Nat → Lv) (e : Ending) (w' : World) : Prop :=
  ∃ n bl bh bf ba : Nat, e = .returned (.agg (lvList (S n bl bh bf ba)).toArray) ∧ last < N ^ n ∧ 1 ≤ n ∧ n ≤ 64 ∧
      w'.rowIs bl 73 n (fun _ => .slice none 0 0) ∧ w'.rowIs bh 34 n (fun _ => .slice none 0 0) ∧ w'.rowIs bf 3 n (fun _ => .int .i64 0) ∧ w'.rowIs ba 74 n (fun _ => .pointer none) ∧
      w.heap.size ≤ bl ∧ w.heap.size ≤ bh ∧ w.heap.size ≤ bf ∧ w.heap.size ≤ ba ∧ Below w.heap.size w w'

theorem new_fin {N n last : Nat} {w w6 w8 : World} {x7 x25 x26 x27 x28 x29 x30 x31 x32 x33 x34 x35 : Value} {L bl bh bf ba : Nat} (S : Nat → Nat → Nat → Nat → Nat → Lv) (hlast : last < N ^ n) (hn1 : 1 ≤ n) (hn : n ≤ 64)
    (R : R6 N n (w.alloc (.cells lvZero.toArray 33)) w6 true true true true true true true true true true true true true x7 x25 x26 x27 x28 x29 x30 x31 x32 x33 x34 x35 L bl bh bf ba)
    (ho : OnlyAt L w6 w8) : NewPost N last w S (.returned (.agg (lvList (S n bl bh bf ba)).toArray)) (w8.setRow w.heap.size (lvList (S n bl bh bf ba)).toArray) := by
  obtain ⟨_, r3, g3⟩ := R.h3 rfl
  obtain ⟨_, r5, g5⟩ := R.h5 rfl
  obtain ⟨_, r7, g7⟩ := R.h7 rfl
  obtain ⟨_, r9, g9⟩ := R.h9 rfl
  obtain ⟨_, hL, hblk⟩ := R.h11 rfl
  have hs : (w.alloc (.cells lvZero.toArray 33)).heap.size = w.heap.size + 1 := by simp
  rw [hs] at g3 g5 g7 g9 hL
  have keep : ∀ k, k ≠ L → k ≠ w.heap.size → (w8.setRow w.heap.size (lvList (S n bl bh bf ba)).toArray).heap[k]? = w6.heap[k]? := fun k h1 h2 => (setRow_other _ _ _ _ h2).trans (ho.block k h1)
  refine ⟨n, bl, bh, bf, ba, rfl, hlast, hn1, hn, r3.of_block (keep _ (row_ne r3 hblk (by decide)) (by omega)), r5.of_block (keep _ (row_ne r5 hblk (by decide)) (by omega)), r7.of_block (keep _ (row_ne r7 hblk (by decide)) (by omega)), r9.of_block (keep _ (row_ne r9 hblk (by decide)) (by omega)), by omega, by omega, by omega, by omega, ?_⟩
  have hb : Below w.heap.size w w6 := ((Below.refl w.heap.size w).alloc (Nat.le_refl _) _).trans (R.below.mono (by omega))
  exact ⟨ho.os.trans hb.os, ho.tape.trans hb.tape, ho.output.trans hb.output, by simp [ho.size]; exact hb.size, fun k hk => (keep k (by omega) (by omega)).trans (hb.block k hk)⟩

set_option maxHeartbeats 1000000 in
set_option maxRecDepth 100000 in
theorem new_flat (N last : Nat) (hN : 2 ≤ N) (hN2 : N ≤ 100) (hlast : last < 18446744073709551616) (w : World)
    (hp : (bits .and .i64 (N : Int) ((N : Int) - 1) == 0) = false) :
    Calls Ybad.prog 12 #[.int .i64 N, .int .u64 last] w (NewPost N last w (lv0 N)) := by
  go_enter Ybad.func12, Ybad.ntmps12
  go_wp2_with (refine wpList_alloc33 rfl rfl ?_)
  go_loop [5, 6] (fun n top => ∃ k T : Nat, 1 ≤ k ∧ k ≤ 63 ∧ T < 18446744073709551616 ∧ Hid (T = N ^ k) ∧ n = .int .i64 k ∧ top = .int .u64 T) (fun n _ => 64 - (intOf n).toNat)
  case atStart => exact ⟨1, N, by omega, by omega, by omega, (Nat.pow_one N).symm, rfl, rfl⟩
  case round =>
    obtain ⟨k, T, hk1, hk2, hT, HT, rfl, rfl⟩ := hrel
    by_cases hle : T ≤ last
    · by_cases hgt : 18446744073709551615 / N < T
      · have hgi : (18446744073709551615 : Int) / (N : Int) < (T : Int) := by have := Int.ofNat_lt.2 hgt; simpa using this
        have hfin : Hid (last < N ^ (k + 1) ∧ 1 ≤ k + 1 ∧ k + 1 ≤ 64) := ⟨by have := top_over N k T hN HT.out hgt; omega, by omega, by omega⟩
        go_wp2
        rw [show ((k : Int) + 1) = ((k + 1 : Nat) : Int) by omega]
        generalize hK : k + 1 = K at hfin ⊢
        clear hK
        refine region6 N K hN2 hfin.out.2.2 _ (by kernel_rfl) _ _ _ _ _ _ _ _ _ _ _ _ _ _ _ _ _ _ _ _ _ _ _ _ _ _ _ _ _ _ _ _ _ _ _ _ _ _ _ _ _ _ _ _ _ _ _ _ _ _ _ _ _ _ _ _ _ _ _ _ ?_
        intro x7 x25 x26 x27 x28 x29 x30 x31 x32 x33 x34 x35 L bl bh bf ba w6 R
        have hx7 := (R.h11 rfl).1
        have hL : w.heap.size + 1 ≤ L := by simpa using (R.h11 rfl).2.1
        have hLv0 := (R.h11 rfl).2.2
        rw [if_pos rfl] at hLv0
        have hLv : Hid (LvIs w6 L (lv0 N K bl bh bf ba)) := hLv0
        clear hLv0
        have h0 : Hid (w6.heap[w.heap.size]? = some (.cells lvZero.toArray 33 (0, 0))) := (R.below.block w.heap.size (by simp)).trans (heap_alloc_new _ _)
        have HR := fun h => new_fin (w8 := w6) (lv0 N) hfin.out.1 hfin.out.2.1 hfin.out.2.2 R h
        subst hx7
        have HR2 : Hid (NewPost N last w (lv0 N) (.returned (.agg (lvList ((lv0 N) K bl bh bf ba)).toArray)) (w6.setRow w.heap.size (lvList ((lv0 N) K bl bh bf ba)).toArray)) := HR (OnlyAt.refl _ _)
        clear R HR
        go_wp2_with (first | (refine wpList_load33 rfl (.tmp 7) rfl L rfl (lv0 N K bl bh bf ba) hLv.out ?_) | (refine wpList_store_row rfl 33 (.tmp 4) (.tmp 59) rfl w.heap.size (lvList (lv0 N K bl bh bf ba)).toArray rfl rfl 33 lvZero.toArray h0.out (by rw [Ybad.size33]; simp [length_lvList]) (by simp [length_lvList, length_lvZero]) (one_lvList _) ?_))
        exact bodyPost_ret (v := .agg (lvList (lv0 N K bl bh bf ba)).toArray) (results_cell_row rfl _ _ w.heap.size 33 _ (0, 0) _ rfl (setRow_heap _ _ _ _ _ _ h0.out) Ybad.underlying33 rfl (by rw [Ybad.size33]; simp [length_lvList])) rfl HR2.out
      · have hgt' : T ≤ 18446744073709551615 / N := by omega
        have hgi : (T : Int) ≤ (18446744073709551615 : Int) / (N : Int) := by have := Int.ofNat_le.2 hgt'; simpa using this
        obtain ⟨hT2, hk3⟩ := top_next N k T hN HT.out hgt'
        have hw : IntKind.u64.wrap ((T : Int) * N) = ((T * N : Nat) : Int) := by
          rw [← Int.natCast_mul, wrap_nat, Nat.mod_eq_of_lt hT2]
        go_wp2
        go_round
        case rel => exact ⟨k + 1, T * N, by omega, by omega, hT2, by show T * N = N ^ (k + 1); rw [Nat.pow_succ, ← HT.out], by go_num, rfl⟩
        case measure => simp [intOf]; omega
    · have hfin : Hid (last < N ^ k ∧ 1 ≤ k ∧ k ≤ 64) := ⟨by have := HT.out; omega, by omega, by omega⟩
      go_wp2
      generalize hK : k = K at hfin ⊢
      refine region6 N K hN2 hfin.out.2.2 _ (by kernel_rfl) _ _ _ _ _ _ _ _ _ _ _ _ _ _ _ _ _ _ _ _ _ _ _ _ _ _ _ _ _ _ _ _ _ _ _ _ _ _ _ _ _ _ _ _ _ _ _ _ _ _ _ _ _ _ _ _ _ _ _ _ ?_
      intro x7 x25 x26 x27 x28 x29 x30 x31 x32 x33 x34 x35 L bl bh bf ba w6 R
      have hx7 := (R.h11 rfl).1
      have hL : w.heap.size + 1 ≤ L := by simpa using (R.h11 rfl).2.1
      have hLv0 := (R.h11 rfl).2.2
      rw [if_pos rfl] at hLv0
      have hLv : Hid (LvIs w6 L (lv0 N K bl bh bf ba)) := hLv0
      clear hLv0
      have h0 : Hid (w6.heap[w.heap.size]? = some (.cells lvZero.toArray 33 (0, 0))) := (R.below.block w.heap.size (by simp)).trans (heap_alloc_new _ _)
      have HR := fun h => new_fin (w8 := w6) (lv0 N) hfin.out.1 hfin.out.2.1 hfin.out.2.2 R h
      subst hx7
      have HR2 : Hid (NewPost N last w (lv0 N) (.returned (.agg (lvList ((lv0 N) K bl bh bf ba)).toArray)) (w6.setRow w.heap.size (lvList ((lv0 N) K bl bh bf ba)).toArray)) := HR (OnlyAt.refl _ _)
      clear R HR
      go_wp2_with (first | (refine wpList_load33 rfl (.tmp 7) rfl L rfl (lv0 N K bl bh bf ba) hLv.out ?_) | (refine wpList_store_row rfl 33 (.tmp 4) (.tmp 59) rfl w.heap.size (lvList (lv0 N K bl bh bf ba)).toArray rfl rfl 33 lvZero.toArray h0.out (by rw [Ybad.size33]; simp [length_lvList]) (by simp [length_lvList, length_lvZero]) (one_lvList _) ?_))
      exact bodyPost_ret (v := .agg (lvList (lv0 N K bl bh bf ba)).toArray) (results_cell_row rfl _ _ w.heap.size 33 _ (0, 0) _ rfl (setRow_heap _ _ _ _ _ _ h0.out) Ybad.underlying33 rfl (by rw [Ybad.size33]; simp [length_lvList])) rfl HR2.out

def lvp (N sh n bl bh bf ba : Nat) : Lv := { lv0 N n bl bh bf ba with shift := sh, dig := fun b => if b < 64 then b / sh else 0 }
def lvk (N sh k n bl bh bf ba : Nat) : Lv := { lv0 N n bl bh bf ba with shift := sh, dig := fun b => if b < k then b / sh else 0 }
theorem dig_wrap (i sh : Nat) (hi : i < 64) : IntKind.u8.wrap ((i : Int) / sh) = ((i / sh : Nat) : Int) := by
  have : i / sh ≤ i := Nat.div_le_self _ _
  rw [← Int.natCast_ediv]
  generalize i / sh = q at this ⊢
  simp [IntKind.wrap, IntKind.bits, IntKind.signed]
  omega
theorem dig_wrap2 (i sh : Nat) (hi : i < 64) : IntKind.u64.wrap ((i : Int) / sh) = (i : Int) / sh := by
  have : i / sh ≤ i := Nat.div_le_self _ _
  rw [← Int.natCast_ediv, IntKind.wrap_u64]
  generalize i / sh = q at this ⊢
  omega
theorem lvk_end {N sh i n bl bh bf ba L : Nat} {w : World} (h : LvIs w L (lvk N sh i n bl bh bf ba)) (e : i = 64) : LvIs w L (lvp N sh n bl bh bf ba) := by
  subst e; exact h
theorem lvk_next (N sh i n bl bh bf ba : Nat) (hi : i < 64) : (lvList (lvk N sh i n bl bh bf ba)).set (2 + i) (.int .u8 ((i / sh : Nat) : Int)) = lvList (lvk N sh (i + 1) n bl bh bf ba) := by
  rw [set_dig _ i (i / sh) hi]
  congr 1
  unfold lvk
  congr 1
  funext b
  dsimp only
  by_cases e : b = i
  · subst e; simp
  · rw [if_neg e]
    by_cases h : b < i
    · rw [if_pos h, if_pos (by omega)]
    · rw [if_neg h, if_neg (by omega)]
theorem TabAt.below {w w' : World} (h : TabAt w) (hb : Below w.heap.size w w') (hz : 0 < w.heap.size) : TabAt w' := fun j hj => (hb.cell (p := ⟨0, j, none⟩) hz).trans (h j hj)

set_option maxHeartbeats 1000000 in
set_option maxRecDepth 100000 in
theorem new_pow (N last : Nat) (hN : 2 ≤ N) (hN2 : N ≤ 100) (hlast : last < 18446744073709551616) (w : World)
    (sh : Nat) (hs1 : 1 ≤ sh) (hs2 : sh ≤ 6) (hct : Hid (Lib.ctz 64 N = sh)) (hTab : TabAt w) (hz : 0 < w.heap.size) (hp : (bits .and .i64 (N : Int) ((N : Int) - 1) == 0) = true) :
    Calls Ybad.prog 12 #[.int .i64 N, .int .u64 last] w (NewPost N last w (lvp N sh)) := by
  go_enter Ybad.func12, Ybad.ntmps12
  go_wp2_with (refine wpList_alloc33 rfl rfl ?_)
  go_loop [5, 6] (fun n top => ∃ k T : Nat, 1 ≤ k ∧ k ≤ 63 ∧ T < 18446744073709551616 ∧ Hid (T = N ^ k) ∧ n = .int .i64 k ∧ top = .int .u64 T) (fun n _ => 64 - (intOf n).toNat)
  case atStart => exact ⟨1, N, by omega, by omega, by omega, (Nat.pow_one N).symm, rfl, rfl⟩
  case round =>
    obtain ⟨k, T, hk1, hk2, hT, HT, rfl, rfl⟩ := hrel
    by_cases hle : T ≤ last
    · by_cases hgt : 18446744073709551615 / N < T
      · have hgi : (18446744073709551615 : Int) / (N : Int) < (T : Int) := by have := Int.ofNat_lt.2 hgt; simpa using this
        have hfin : Hid (last < N ^ (k + 1) ∧ 1 ≤ k + 1 ∧ k + 1 ≤ 64) := ⟨by have := top_over N k T hN HT.out hgt; omega, by omega, by omega⟩
        go_wp2
        rw [show ((k : Int) + 1) = ((k + 1 : Nat) : Int) by omega]
        generalize hK : k + 1 = K at hfin ⊢
        clear hK
        refine region6 N K hN2 hfin.out.2.2 _ (by kernel_rfl) _ _ _ _ _ _ _ _ _ _ _ _ _ _ _ _ _ _ _ _ _ _ _ _ _ _ _ _ _ _ _ _ _ _ _ _ _ _ _ _ _ _ _ _ _ _ _ _ _ _ _ _ _ _ _ _ _ _ _ _ ?_
        intro x7 x25 x26 x27 x28 x29 x30 x31 x32 x33 x34 x35 L bl bh bf ba w6 R
        have hx7 := (R.h11 rfl).1
        have hL : w.heap.size + 1 ≤ L := by simpa using (R.h11 rfl).2.1
        have hLv0 := (R.h11 rfl).2.2
        rw [if_pos rfl] at hLv0
        have hLv : Hid (LvIs w6 L (lv0 N K bl bh bf ba)) := hLv0
        clear hLv0
        have h0 : Hid (w6.heap[w.heap.size]? = some (.cells lvZero.toArray 33 (0, 0))) := (R.below.block w.heap.size (by simp)).trans (heap_alloc_new _ _)
        subst hx7
        have RR : Hid (∀ w8, OnlyAt L w6 w8 → NewPost N last w (lvp N sh) (.returned (.agg (lvList (lvp N sh K bl bh bf ba)).toArray)) (w8.setRow w.heap.size (lvList (lvp N sh K bl bh bf ba)).toArray)) := fun w8 h => new_fin (w8 := w8) (lvp N sh) hfin.out.1 hfin.out.2.1 hfin.out.2.2 R h
        have hT6 : TabAt w6 := hTab.below (((Below.refl w.heap.size w).alloc (Nat.le_refl _) _).trans (R.below.mono (by simp))) hz
        clear R
        have cs1 := hLv.out.shift
        have fs1 := hLv.out.frozen 1
        go_wp2_with fail
        refine (tz_any N (by omega) (by omega) w6 hT6).mono ?_
        rintro e w6 ⟨rfl, rfl⟩
        rw [hct.out]
        go_wp2_with fail
        go_loopw [46] (fun j wr => ∃ i : Nat, i ≤ 64 ∧ j = .int .i64 i ∧ Hid (LvIs wr L (lvk N sh i K bl bh bf ba)) ∧ Hid (OnlyAt L w6 wr)) (fun j _ => 64 - (intOf j).toNat)
        case atStart => exact ⟨0, by omega, rfl, hLv.out.set 1 _ (by rw [set_shift]; simp [lvk, lv0]), (OnlyAt.refl _ _).setCell _ _⟩
        case round =>
          obtain ⟨i, hi, rfl, hv, ho⟩ := hrel
          by_cases hlt : i < 64
          · have c1 : wr.cell? ⟨L, 1, none⟩ = some (.int .u64 sh) := hv.out.shift
            have c2 := hv.out.dig hlt
            have c3 := hv.out.frozen (2 + i)
            have hq : IntKind.u8.wrap ((i : Int) / sh) = ((i / sh : Nat) : Int) := dig_wrap i sh hlt
            have hq2 : IntKind.u64.wrap ((i : Int) / sh) = (i : Int) / sh := dig_wrap2 i sh hlt
            go_wp2
            go_roundw
            case rel => exact ⟨i + 1, by omega, by go_num, hv.out.set _ _ (lvk_next N sh i K bl bh bf ba hlt), ho.out.setCell _ _⟩
            case measure => simp [intOf]; omega
          · have hv2 : Hid (LvIs wr L (lvp N sh K bl bh bf ba)) := lvk_end hv.out (by omega)
            have h02 : Hid (wr.heap[w.heap.size]? = some (.cells lvZero.toArray 33 (0, 0))) := (ho.out.block _ (by omega)).trans h0.out
            go_wp2_with (first | (refine wpList_load33 rfl (.tmp 7) rfl L rfl (lvp N sh K bl bh bf ba) hv2.out ?_) | (refine wpList_store_row rfl 33 (.tmp 4) (.tmp 59) rfl w.heap.size (lvList (lvp N sh K bl bh bf ba)).toArray rfl rfl 33 lvZero.toArray h02.out (by rw [Ybad.size33]; simp [length_lvList]) (by simp [length_lvList, length_lvZero]) (one_lvList _) ?_))
            exact bodyPost_ret (v := .agg (lvList (lvp N sh K bl bh bf ba)).toArray) (results_cell_row rfl _ _ w.heap.size 33 _ (0, 0) _ rfl (setRow_heap _ _ _ _ _ _ h02.out) Ybad.underlying33 rfl (by rw [Ybad.size33]; simp [length_lvList])) rfl (RR.out _ ho.out)
      · have hgt' : T ≤ 18446744073709551615 / N := by omega
        have hgi : (T : Int) ≤ (18446744073709551615 : Int) / (N : Int) := by have := Int.ofNat_le.2 hgt'; simpa using this
        obtain ⟨hT2, hk3⟩ := top_next N k T hN HT.out hgt'
        have hw : IntKind.u64.wrap ((T : Int) * N) = ((T * N : Nat) : Int) := by
          rw [← Int.natCast_mul, wrap_nat, Nat.mod_eq_of_lt hT2]
        go_wp2
        go_round
        case rel => exact ⟨k + 1, T * N, by omega, by omega, hT2, by show T * N = N ^ (k + 1); rw [Nat.pow_succ, ← HT.out], by go_num, rfl⟩
        case measure => simp [intOf]; omega
    · have hfin : Hid (last < N ^ k ∧ 1 ≤ k ∧ k ≤ 64) := ⟨by have := HT.out; omega, by omega, by omega⟩
      go_wp2
      generalize hK : k = K at hfin ⊢
      refine region6 N K hN2 hfin.out.2.2 _ (by kernel_rfl) _ _ _ _ _ _ _ _ _ _ _ _ _ _ _ _ _ _ _ _ _ _ _ _ _ _ _ _ _ _ _ _ _ _ _ _ _ _ _ _ _ _ _ _ _ _ _ _ _ _ _ _ _ _ _ _ _ _ _ _ ?_
      intro x7 x25 x26 x27 x28 x29 x30 x31 x32 x33 x34 x35 L bl bh bf ba w6 R
      have hx7 := (R.h11 rfl).1
      have hL : w.heap.size + 1 ≤ L := by simpa using (R.h11 rfl).2.1
      have hLv0 := (R.h11 rfl).2.2
      rw [if_pos rfl] at hLv0
      have hLv : Hid (LvIs w6 L (lv0 N K bl bh bf ba)) := hLv0
      clear hLv0
      have h0 : Hid (w6.heap[w.heap.size]? = some (.cells lvZero.toArray 33 (0, 0))) := (R.below.block w.heap.size (by simp)).trans (heap_alloc_new _ _)
      subst hx7
      have RR : Hid (∀ w8, OnlyAt L w6 w8 → NewPost N last w (lvp N sh) (.returned (.agg (lvList (lvp N sh K bl bh bf ba)).toArray)) (w8.setRow w.heap.size (lvList (lvp N sh K bl bh bf ba)).toArray)) := fun w8 h => new_fin (w8 := w8) (lvp N sh) hfin.out.1 hfin.out.2.1 hfin.out.2.2 R h
      have hT6 : TabAt w6 := hTab.below (((Below.refl w.heap.size w).alloc (Nat.le_refl _) _).trans (R.below.mono (by simp))) hz
      clear R
      have cs1 := hLv.out.shift
      have fs1 := hLv.out.frozen 1
      go_wp2_with fail
      refine (tz_any N (by omega) (by omega) w6 hT6).mono ?_
      rintro e w6 ⟨rfl, rfl⟩
      rw [hct.out]
      go_wp2_with fail
      go_loopw [46] (fun j wr => ∃ i : Nat, i ≤ 64 ∧ j = .int .i64 i ∧ Hid (LvIs wr L (lvk N sh i K bl bh bf ba)) ∧ Hid (OnlyAt L w6 wr)) (fun j _ => 64 - (intOf j).toNat)
      case atStart => exact ⟨0, by omega, rfl, hLv.out.set 1 _ (by rw [set_shift]; simp [lvk, lv0]), (OnlyAt.refl _ _).setCell _ _⟩
      case round =>
        obtain ⟨i, hi, rfl, hv, ho⟩ := hrel
        by_cases hlt : i < 64
        · have c1 : wr.cell? ⟨L, 1, none⟩ = some (.int .u64 sh) := hv.out.shift
          have c2 := hv.out.dig hlt
          have c3 := hv.out.frozen (2 + i)
          have hq : IntKind.u8.wrap ((i : Int) / sh) = ((i / sh : Nat) : Int) := dig_wrap i sh hlt
          have hq2 : IntKind.u64.wrap ((i : Int) / sh) = (i : Int) / sh := dig_wrap2 i sh hlt
          go_wp2
          go_roundw
          case rel => exact ⟨i + 1, by omega, by go_num, hv.out.set _ _ (lvk_next N sh i K bl bh bf ba hlt), ho.out.setCell _ _⟩
          case measure => simp [intOf]; omega
        · have hv2 : Hid (LvIs wr L (lvp N sh K bl bh bf ba)) := lvk_end hv.out (by omega)
          have h02 : Hid (wr.heap[w.heap.size]? = some (.cells lvZero.toArray 33 (0, 0))) := (ho.out.block _ (by omega)).trans h0.out
          go_wp2_with (first | (refine wpList_load33 rfl (.tmp 7) rfl L rfl (lvp N sh K bl bh bf ba) hv2.out ?_) | (refine wpList_store_row rfl 33 (.tmp 4) (.tmp 59) rfl w.heap.size (lvList (lvp N sh K bl bh bf ba)).toArray rfl rfl 33 lvZero.toArray h02.out (by rw [Ybad.size33]; simp [length_lvList]) (by simp [length_lvList, length_lvZero]) (one_lvList _) ?_))
          exact bodyPost_ret (v := .agg (lvList (lvp N sh K bl bh bf ba)).toArray) (results_cell_row rfl _ _ w.heap.size 33 _ (0, 0) _ rfl (setRow_heap _ _ _ _ _ _ h02.out) Ybad.underlying33 rfl (by rw [Ybad.size33]; simp [length_lvList])) rfl (RR.out _ ho.out)

/-! ### newLevels at the numbers of slots that the laws hand it -/
def GoodN (N : Nat) : Prop := N = 2 ∨ N = 3 ∨ N = 4 ∨ N = 8 ∨ N = 10 ∨ N = 64 ∨ N = 100
def shOf (N : Nat) : Nat := if N = 2 then 1 else if N = 4 then 2 else if N = 8 then 3 else if N = 64 then 6 else 0
def lvN (N n bl bh bf ba : Nat) : Lv := { lv0 N n bl bh bf ba with shift := shOf N, dig := fun b => if b < 64 then b / shOf N else 0 }
theorem GoodN.bounds {N : Nat} (h : GoodN N) : 2 ≤ N ∧ N ≤ 100 := by unfold GoodN at h; omega
theorem GoodN.sh {N : Nat} (h : GoodN N) : ShOk N (shOf N) ∧ shOf N ≤ 6 := by
  unfold GoodN at h
  rcases h with rfl | rfl | rfl | rfl | rfl | rfl | rfl
  · exact ⟨.inr rfl, by decide⟩
  · exact ⟨.inl rfl, by decide⟩
  · exact ⟨.inr rfl, by decide⟩
  · exact ⟨.inr rfl, by decide⟩
  · exact ⟨.inl rfl, by decide⟩
  · exact ⟨.inr rfl, by decide⟩
  · exact ⟨.inl rfl, by decide⟩
theorem lvN_flat (N : Nat) (h : shOf N = 0) : lvN N = lv0 N := by
  funext n bl bh bf ba
  unfold lvN lv0
  rw [h]
  simp
theorem new_any (N last : Nat) (hg : GoodN N) (hlast : last < 18446744073709551616) (w : World) (hTab : TabAt w) (hz : 0 < w.heap.size) :
    Calls Ybad.prog 12 #[.int .i64 N, .int .u64 last] w (NewPost N last w (lvN N)) := by
  unfold GoodN at hg
  rcases hg with rfl | rfl | rfl | rfl | rfl | rfl | rfl
  · exact new_pow 2 last (by omega) (by omega) hlast w 1 (by omega) (by omega) (show Lib.ctz 64 2 = 1 by decide) hTab hz (by decide)
  · rw [lvN_flat 3 rfl]; exact new_flat 3 last (by omega) (by omega) hlast w (by decide)
  · exact new_pow 4 last (by omega) (by omega) hlast w 2 (by omega) (by omega) (show Lib.ctz 64 4 = 2 by decide) hTab hz (by decide)
  · exact new_pow 8 last (by omega) (by omega) hlast w 3 (by omega) (by omega) (show Lib.ctz 64 8 = 3 by decide) hTab hz (by decide)
  · rw [lvN_flat 10 rfl]; exact new_flat 10 last (by omega) (by omega) hlast w (by decide)
  · exact new_pow 64 last (by omega) (by omega) hlast w 6 (by omega) (by omega) (show Lib.ctz 64 64 = 6 by decide) hTab hz (by decide)
  · rw [lvN_flat 100 rfl]; exact new_flat 100 last (by omega) (by omega) hlast w (by decide)

end Go.Proofs.YbulkajrsDoor
