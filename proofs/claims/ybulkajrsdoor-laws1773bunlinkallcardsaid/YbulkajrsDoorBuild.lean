import Derived.Test.YbulkajrsDoorInvA
import Derived.Test.YbulkajrsDoorHold
import Derived.WalkSpells
namespace Go.Proofs.YbulkajrsDoor
open Go.RowKit
set_option linter.unusedVariables false

theorem Ybad.info22 : (Ybad.prog.info? 22).map (fun i => (i.zero, i.size, i.bytes)) = some (some (.int .u64 0), 1, 8) := by kernel_rfl

theorem results_cell_two {P : Program} {fn : Func} {p u v : Tmp} {ty : TypeId} (h : fn.results = #[.cell p ty, .tmp u, .tmp v]) (tmps : Array Value) (w : World) (g : Nat) (t : TypeId) (cs : Array Value) (fr : Nat × Nat) (d : TypeDesc)
    (hp : tmps.getD p undef = .pointer (some ⟨g, 0, none⟩)) (hg : w.heap[g]? = some (.cells cs t fr))
    (hu : P.underlying ty = some d) (hd : (match d with | .struct _ | .array _ _ => true | _ => false) = true) (hi : (P.info? ty).map (·.size) = some cs.size) :
    (results fn tmps).run P w = .ok (.tuple #[.agg cs, tmps.getD u undef, tmps.getD v undef]) w := by
  have hp' : tmps[p]?.getD undef = .pointer (some ⟨g, 0, none⟩) := by simpa using hp
  simp [results, h, hp', asAddr, run_loadVar_row w g t ty cs fr d hg hu hd hi]

/-- 'hold(l, s, true)' in the course of the law's building. -/
theorem hold_bld {w0 w : World} {B L R0 Bm Bs k nw i n : Nat} {s : Lv} {HB HB' : Nat → Option Nat} {H : Nat → Nat → Nat} {F : Nat → Int} {ML MS : Nat → Nat} {b : Nat}
    (hB : Bld w0 w B L R0 Bm Bs k nw i s HB' H F ML MS) (hM : Marks n nw s.busy i HB H ML MS) (hn : s.n = n) (hn64 : n ≤ 64) (hl : ML i < n) (hs : MS i < 64 * nw) (hnw : nw ≤ 2)
    (h1 : HB' (ML i) = some b) (h2 : ∀ l, l ≠ ML i → HB' l = HB l) (h3 : HB' = HB ∨ HB (ML i) = none) :
    Calls Ybad.prog 17 #[.pointer (some ⟨L, 0, none⟩), .int .i64 (ML i), .int .u64 (MS i), .bool true] w fun e w' => e = .returned (.tuple #[]) ∧
      ∃ s' H' F', Bld w0 w' B L R0 Bm Bs k nw i s' HB' H' F' ML MS ∧ Marks n nw s'.busy (i + 1) HB' H' ML MS ∧
        s'.slots = s.slots ∧ s'.shift = s.shift ∧ s'.now = s.now ∧ s'.n = s.n ∧ s'.bh = s.bh ∧ s'.bf = s.bf := by
  subst hn
  obtain ⟨hw, hbs⟩ := hB.words _ b hl h1
  have c67 := hB.lv.held
  have c2 : w.cell? ⟨s.bh, ML i, none⟩ = some (.slice (some ⟨b, 0, none⟩) nw nw) := by rw [hB.hrow.cell hl, h1]; rfl
  have c3 := hw.cell (show MS i / 64 < nw by omega)
  have hx := hM.lt (ML i) (MS i / 64)
  have hr : MS i % 64 < 64 := Nat.mod_lt _ (by omega)
  have ht := bit_zero (H (ML i) (MS i / 64)) (MS i % 64) hx hr
  by_cases hb : heldBit (H (ML i)) (MS i) = true
  · refine (hold_keep L s.bh b s.n nw (ML i) (MS i) _ w hl hn64 (by omega) hnw (by omega) c67 c2 c3 (by rw [ht]; simpa [heldBit] using hb)).mono ?_
    rintro e w' ⟨rfl, rfl⟩
    have hne : HB' = HB := by
      rcases h3 with h | h
      · exact h
      · rw [hM.bit_of_none h] at hb; cases hb
    exact ⟨rfl, s, H, F, hB, by rw [hne]; exact hM.keep hl hs hn64 hb, rfl, rfl, rfl, rfl, rfl, rfl⟩
  · have hb' : heldBit (H (ML i)) (MS i) = false := by simpa using hb
    refine (hold_set L s.bh s.bf b s.n nw (ML i) (MS i) _ s.busy (F (ML i)) w hl hn64 (by omega) hnw (by omega) c67 c2 c3 (hw.frozen _) hB.lv.full (hB.frow.cell hl) (hB.frow.frozen _) hB.lv.busy (hB.lv.frozen _)
      (row_lv_ne hw hB.lv (by decide)) (rows_ne hw hB.frow (by decide)) (row_lv_ne hB.frow hB.lv (by decide)) (by rw [ht]; simpa [heldBit] using hb')).mono ?_
    rintro e w' ⟨rfl, rfl⟩
    rw [bit_or _ _ hx hr, bit_or s.busy (ML i) hM.blt (by omega)]
    exact ⟨rfl, _, _, _, (hB.mark hl h1).drew, hM.set hl hs hn64 (by rw [h1]; simp) h2, rfl, rfl, rfl, rfl, rfl, rfl⟩

theorem bld_start {N n bl bh bf ba L now k nw : Nat} {w w1 W2 : World} (ML MS : Nat → Nat) (hL : w1.heap.size = L) (hLv : LvIs W2 L (lvN N n bl bh bf ba)) (hsz : W2.heap.size = L + 1) (hb2 : Below L w1 W2)
    (r34 : w1.rowIs bh 34 n (fun _ => .slice none 0 0)) (r3 : w1.rowIs bf 3 n (fun _ => .int .i64 0)) (gh : (w.alloc (.cells lvZero.toArray 33)).heap.size ≤ bh) (gf : (w.alloc (.cells lvZero.toArray 33)).heap.size ≤ bf)
    (hb1 : Below (w.alloc (.cells lvZero.toArray 33)).heap.size (w.alloc (.cells lvZero.toArray 33)) w1) :
    Bld w (((W2.setCell ⟨L, 70, none⟩ (.int .u64 now)).alloc (.cells (madeCells #[.int .i64 0] k) 3)).alloc (.cells (madeCells #[.int .u64 0] k) 22)) w.heap.size L w.heap.size (L + 1) (L + 1 + 1) k nw 0
      { lvN N n bl bh bf ba with now := now } (fun _ => none) (fun _ _ => 0) (fun _ => 0) ML MS := by
  have hs1 : (w.alloc (.cells lvZero.toArray 33)).heap.size = w.heap.size + 1 := by simp
  rw [hs1] at gh gf
  have l34 := r34.lt
  have l3 := r3.lt
  have hle : w.heap.size + 1 ≤ w1.heap.size := by have := hb1.size; omega
  have r34' := r34.of_block (hb2.block bh (by omega))
  have r3' := r3.of_block (hb2.block bf (by omega))
  have hsz3 : (W2.setCell ⟨L, 70, none⟩ (.int .u64 now)).heap.size = L + 1 := by simp [hsz]
  have hsz4 : ((W2.setCell ⟨L, 70, none⟩ (.int .u64 now)).alloc (.cells (madeCells #[.int .i64 0] k) 3)).heap.size = L + 1 + 1 := by simp [hsz]
  have bel : Below w.heap.size w W2 := (((Below.refl w.heap.size w).alloc (Nat.le_refl _) _).trans (hb1.mono (by omega))).trans (hb2.mono (by omega))
  have m1 := World.rowIs_made (W2.setCell ⟨L, 70, none⟩ (.int .u64 now)) (.int .i64 0) k 3
  rw [hsz3] at m1
  have m2 := World.rowIs_made ((W2.setCell ⟨L, 70, none⟩ (.int .u64 now)).alloc (.cells (madeCells #[.int .i64 0] k) 3)) (.int .u64 0) k 22
  rw [hsz4] at m2
  exact { lv := ((hLv.set 70 _ (set_now _ now)).alloc _).alloc _
          hrow := ((r34'.setOther (by show bh ≠ L; omega) _).alloc _).alloc _
          words := fun l b _ h => by cases h
          inj := fun l l' b _ _ h => by cases h
          frow := ((r3'.setOther (by show bf ≠ L; omega) _).alloc _).alloc _
          mrow := (m1.alloc _).congr fun j _ => by simp
          srow := m2.congr fun j _ => by simp
          res := by
            rw [Below.heap_alloc _ _ _ (by rw [hsz4]; omega), Below.heap_alloc _ _ _ (by rw [hsz3]; omega), heap_setCell_other _ _ _ _ (by show w.heap.size ≠ L; omega), hb2.block _ (by omega), hb1.block _ (by omega)]
            exact heap_alloc_new _ _
          below := ((bel.setCell (p := ⟨L, 70, none⟩) (by show w.heap.size ≤ L; omega) _).alloc (by rw [hsz3]; omega) _).alloc (by rw [hsz4]; omega) _
          bL := by omega
          bR := Nat.le_refl _
          bh := by show w.heap.size ≤ bh; omega
          bf := by show w.heap.size ≤ bf; omega
          bm := by omega
          bs := by omega
          ne1 := by show bf ≠ L + 1; omega
          ne2 := by omega }

/-- What zzs1773abuild hands back. -/
def BuildPost (N now k : Nat) (LS SS : Nat → Nat) (w : World) (e : Ending) (w' : World) : Prop :=
  ∃ (n bh Bm Bs nw : Nat) (s : Lv) (HB : Nat → Option Nat) (H : Nat → Nat → Nat), e = .returned (.tuple #[.agg (lvList s).toArray, .slice (some ⟨Bm, 0, none⟩) k k, .slice (some ⟨Bs, 0, none⟩) k k]) ∧
    s.slots = N ∧ s.shift = shOf N ∧ s.now = now ∧ s.n = n ∧ s.bh = bh ∧ 1 ≤ n ∧ n ≤ 64 ∧ nw = (N + 63) / 64 ∧
    w'.rowIs bh 34 n (fun l => heldV nw (HB l)) ∧ (∀ l b, l < n → HB l = some b → w'.rowIs b 22 nw (fun q => .int .u64 (H l q))) ∧
    w'.rowIs Bm 3 k (fun j => .int .i64 ((LS j % n : Nat) : Int)) ∧ w'.rowIs Bs 22 k (fun j => .int .u64 ((SS j % N : Nat) : Int)) ∧
    Marks n nw s.busy k HB H (fun j => LS j % n) (fun j => SS j % N) ∧ Below w.heap.size w w'

set_option maxHeartbeats 2000000 in
set_option maxRecDepth 100000 in
theorem build_any (a0 : Int) (N last now len1 cap1 len2 cap2 k : Nat) (a1 a2 : Option Addr) (LS SS : Nat → Nat) (w : World) (h0 : 0 ≤ a0) (h1 : a0 ≤ 255) (hN : slotsA a0 = N) (hg : GoodN N)
    (hlast : last < 18446744073709551616) (hnow : now < 18446744073709551616) (hl1 : len1 ≤ 1024) (hl2 : len2 ≤ 1024) (hk : k ≤ 1024) (hTab : TabAt w) (hz : 0 < w.heap.size)
    (hc1 : 0 < k → ∃ b off, a1 = some ⟨b, off, none⟩ ∧ b < w.heap.size ∧ ∀ j, j < k → w.cell? ⟨b, off + j, none⟩ = some (.int .u8 (LS j)))
    (hc2 : 0 < k → ∃ b off, a2 = some ⟨b, off, none⟩ ∧ b < w.heap.size ∧ ∀ j, j < k → w.cell? ⟨b, off + j, none⟩ = some (.int .u16 (SS j)))
    (hLS : ∀ j, LS j ≤ 255) (hSS : ∀ j, SS j ≤ 65535)
    (hway : (len2 < len1 ∧ k = len2) ∨ (¬ len2 < len1 ∧ k = len1)) :
    Calls Ybad.prog 7 #[.int .u8 a0, .int .u64 last, .int .u64 now, .slice a1 len1 cap1, .slice a2 len2 cap2] w (BuildPost N now k LS SS w) := by
  obtain ⟨hN2, hN100⟩ := hg.bounds
  have CA : Hid (∀ W, Calls Ybad.prog 16 #[.int .u8 a0] W fun e w' => e = .returned (.int .i64 N) ∧ w' = W) := fun W => by rw [← hN]; exact aslots_any a0 h0 h1 W
  have CN : Hid (Calls Ybad.prog 12 #[.int .i64 N, .int .u64 last] (w.alloc (.cells lvZero.toArray 33)) (NewPost N last (w.alloc (.cells lvZero.toArray 33)) (lvN N))) :=
    new_any N last hg hlast _ (hTab.below ((Below.refl _ _).alloc (Nat.le_refl _) _) hz) (by simp)
  have C1 : Hid (0 < k → ∃ b off, a1 = some ⟨b, off, none⟩ ∧ b < w.heap.size ∧ ∀ j, j < k → w.cell? ⟨b, off + j, none⟩ = some (.int .u8 (LS j))) := hc1
  have C2 : Hid (0 < k → ∃ b off, a2 = some ⟨b, off, none⟩ ∧ b < w.heap.size ∧ ∀ j, j < k → w.cell? ⟨b, off + j, none⟩ = some (.int .u16 (SS j))) := hc2
  have HLS : Hid (∀ j, LS j ≤ 255) := hLS
  have HSS : Hid (∀ j, SS j ≤ 65535) := hSS
  have HG : Hid (GoodN N) := hg
  have hmk := run_make_row' (P := Ybad.prog) 29 3 (.int .i64 0) 8 Ybad.underlying29 Ybad.info3 rfl .i64 .i64 k (by omega) (by omega)
  have hms := run_make_row' (P := Ybad.prog) 34 22 (.int .u64 0) 8 Ybad.underlying34 Ybad.info22 rfl .i64 .i64 k (by omega) (by omega)
  clear hN hg hc1 hc2 hLS hSS hTab
  rcases hway with ⟨hlt, hke⟩ | ⟨hlt, hke⟩
  all_goals
    subst hke
    go_enter Ybad.func7, Ybad.ntmps7
    go_wp2_with (first | (refine wpList_alloc33 rfl rfl ?_) | (go_at_call 16; refine (CA.out _).mono ?_; rintro e w' ⟨rfl, rfl⟩))
    refine CN.out.mono ?_
    rintro e w1 ⟨n, bl, bh, bf, ba, rfl, hpow, hn1, hn64, r73, r34, r3, r74, gl, gh, gf, ga, hb1⟩
    go_wp2_with ((refine wpList_newvar33 rfl rfl 14 rfl rfl (.tmp 26) rfl rfl (lvN N n bl bh bf ba) rfl rfl ?_; intro L W2 hL hLv hsz hb2; have c70 := hLv.now; have f70 := hLv.frozen 70; have c66 : W2.cell? ⟨L, 66, none⟩ = some (.slice (some ⟨bl, 0, none⟩) n n) := hLv.level))
    obtain ⟨nw, hnw⟩ : ∃ nw, nw = (N + 63) / 64 := ⟨_, rfl⟩
    have hnw2 : nw ≤ 2 := by omega
    have hNw : N ≤ 64 * nw := by omega
    have HNW : Hid (nw = (N + 63) / 64) := hnw
    have hnwi : ((N : Int) + 63) / 64 = nw := by omega
    have BS := bld_start (now := now) (k := k) (nw := nw) (fun j => LS j % n) (fun j => SS j % N) hL hLv hsz hb2 r34 r3 gh gf hb1
    clear hnw hLv hsz hb2 r34 r3 r73 r74 gl gh gf ga hb1 c70 f70 c66 hL
    go_loopw [19] (fun v wr => ∃ (i : Nat) (s : Lv) (HB : Nat → Option Nat) (H : Nat → Nat → Nat) (F : Nat → Int), i ≤ k ∧ v = .int .i64 i ∧
        Hid (Bld w wr w.heap.size L w.heap.size (L + 1) (L + 1 + 1) k nw i s HB H F (fun j => LS j % n) (fun j => SS j % N)) ∧ Hid (Marks n nw s.busy i HB H (fun j => LS j % n) (fun j => SS j % N)) ∧
        Hid (s.slots = N ∧ s.shift = shOf N ∧ s.now = now ∧ s.n = n)) (fun v _ => k - (intOf v).toNat)
    case atStart => exact ⟨0, _, _, _, _, Nat.zero_le _, rfl, BS, Marks.start _ _ _ _, rfl, rfl, rfl, rfl⟩
    case round =>
      obtain ⟨i, s, HB, H, F, hi, rfl, hB, hM, hS⟩ := hrel
      clear BS
      obtain ⟨s1, s2, s3, s4⟩ := hS.out
      by_cases hlt2 : i < k
      · obtain ⟨b1, o1, rfl, hb1, hc1⟩ := C1.out (by omega)
        obtain ⟨b2, o2, rfl, hb2, hc2⟩ := C2.out (by omega)
        have x1 : wr.cell? ⟨b1, o1 + i, none⟩ = some (.int .u8 (LS i)) := (hB.out.below.cell (p := ⟨b1, o1 + i, none⟩) hb1).trans (hc1 i hlt2)
        have x2 : wr.cell? ⟨b2, o2 + i, none⟩ = some (.int .u16 (SS i)) := (hB.out.below.cell (p := ⟨b2, o2 + i, none⟩) hb2).trans (hc2 i hlt2)
        have y1 := HLS.out i
        have y2 := HSS.out i
        have z1 : ((LS i : Int) % n) = ((LS i % n : Nat) : Int) := by simp
        have z2 : ((SS i : Int) % N) = ((SS i % N : Nat) : Int) := by simp
        obtain ⟨ml, hml⟩ : ∃ ml, ml = LS i % n := ⟨_, rfl⟩
        obtain ⟨ms, hms'⟩ : ∃ ms, ms = SS i % N := ⟨_, rfl⟩
        have q1 : ml < n := by rw [hml]; exact Nat.mod_lt _ (by omega)
        have q2 : ms < N := by rw [hms']; exact Nat.mod_lt _ (by omega)
        rw [← hml] at z1
        rw [← hms'] at z2
        have c67 : wr.cell? ⟨L, 67, none⟩ = some (.slice (some ⟨s.bh, 0, none⟩) n n) := by rw [← s4]; exact hB.out.lv.held
        have heql := fun (w : World) (a : Option Addr) (n c : Nat) => Lib.run_eql_slice_nil (P := Ybad.prog) w 34 22 a n c 0 0 Ybad.underlying34
        have Hml : Hid (ml = LS i % n) := hml
        have Hms : Hid (ms = SS i % N) := hms'
        have S4 : Hid (s.n = n) := s4
        clear hc1 hc2 s1 s2 s3 s4 hml hms'
        have HC : Hid (∀ (W : World) (HB' : Nat → Option Nat) (b : Nat), Bld w W w.heap.size L w.heap.size (L + 1) (L + 1 + 1) k nw i s HB' H F (fun j => LS j % n) (fun j => SS j % N) → HB' ml = some b → (∀ l, l ≠ ml → HB' l = HB l) → (HB' = HB ∨ HB ml = none) →
            Calls Ybad.prog 17 #[.pointer (some ⟨L, 0, none⟩), .int .i64 ml, .int .u64 ms, .bool true] W fun e w' => e = .returned (.tuple #[]) ∧
              ∃ s' H' F', Bld w w' w.heap.size L w.heap.size (L + 1) (L + 1 + 1) k nw i s' HB' H' F' (fun j => LS j % n) (fun j => SS j % N) ∧ Marks n nw s'.busy (i + 1) HB' H' (fun j => LS j % n) (fun j => SS j % N) ∧
                s'.slots = s.slots ∧ s'.shift = s.shift ∧ s'.now = s.now ∧ s'.n = s.n ∧ s'.bh = s.bh ∧ s'.bf = s.bf) := by
          rw [Hml.out, Hms.out]
          exact fun W HB' b h1 h2 h3 h4 => hold_bld h1 hM.out S4.out hn64 (Nat.mod_lt _ (by omega)) (by show SS i % N < 64 * nw; have := Nat.mod_lt (SS i) (show 0 < N by omega); omega) hnw2 h2 h3 h4
        have FIN : Hid (∀ (W : World) (HB' : Nat → Option Nat) (H' : Nat → Nat → Nat) (F' : Nat → Int) (s' : Lv), Bld w W w.heap.size L w.heap.size (L + 1) (L + 1 + 1) k nw i s' HB' H' F' (fun j => LS j % n) (fun j => SS j % N) →
            Bld w ((W.setCell ⟨L + 1, i, none⟩ (.int .i64 ml)).setCell ⟨L + 1 + 1, i, none⟩ (.int .u64 ms)) w.heap.size L w.heap.size (L + 1) (L + 1 + 1) k nw (i + 1) s' HB' H' F' (fun j => LS j % n) (fun j => SS j % N)) := by
          rw [Hml.out, Hms.out]
          exact fun W HB' H' F' s' h => h.note hlt2
        have hmk3 := run_make_row' (P := Ybad.prog) 34 22 (.int .u64 0) 8 Ybad.underlying34 Ybad.info22 rfl .u64 .u64 nw (by omega) (by omega)
        cases hHB : HB ml with
        | none =>
          have c2 : wr.cell? ⟨s.bh, ml, none⟩ = some (.slice none 0 0) := by rw [hB.out.hrow.cell (by rw [S4.out]; exact q1), hHB]; rfl
          have f2 := hB.out.hrow.frozen ml
          have hne : ¬ s.bh = L := row_lv_ne hB.out.hrow hB.out.lv (by decide)
          have hbl : s.bh < wr.heap.size := hB.out.hrow.lt
          have hLl : L < wr.heap.size := hB.out.lv.lt
          have c67' := c67
          have HL : Hid (Bld w ((wr.setCell ⟨s.bh, ml, none⟩ (.slice (some ⟨wr.heap.size, 0, none⟩) nw nw)).alloc (.cells (madeCells #[.int .u64 0] nw) 22)).drew w.heap.size L w.heap.size (L + 1) (L + 1 + 1) k nw i s (upd HB ml (some wr.heap.size)) H F (fun j => LS j % n) (fun j => SS j % N)) :=
            by
              have := (hB.out.lay (by rw [S4.out]; exact q1) hHB (hM.out.zero _ hHB)).drew
              rw [World.setCell_alloc_past _ _ _ _ hbl] at this
              exact this
          have HHB : Hid (HB ml = none) := hHB
          clear hHB
          go_wp2_with fail
          go_region
          all_goals go_wp2_with fail
          refine (HC.out _ (upd HB ml (some wr.heap.size)) _ HL.out (upd_same _ _ _) (fun l h => upd_other _ _ _ h) (.inr HHB.out)).mono ?_
          rintro e W3 ⟨rfl, s', H', F', hB3, hM3, e1, e2, e3, e4, e5, e6⟩
          have m1 := hB3.mrow.cell hlt2
          have m2 := hB3.mrow.frozen i
          have m3 := hB3.srow.cell hlt2
          have m4 := hB3.srow.frozen i
          have hB4 : Hid (Bld w ((W3.setCell ⟨L + 1, i, none⟩ (.int .i64 ml)).setCell ⟨L + 1 + 1, i, none⟩ (.int .u64 ms)) w.heap.size L w.heap.size (L + 1) (L + 1 + 1) k nw (i + 1) s' (upd HB ml (some wr.heap.size)) H' F' (fun j => LS j % n) (fun j => SS j % N)) := FIN.out _ _ _ _ _ hB3
          have hM4 : Hid (Marks n nw s'.busy (i + 1) (upd HB ml (some wr.heap.size)) H' (fun j => LS j % n) (fun j => SS j % N)) := hM3
          have hS4 : Hid (s'.slots = N ∧ s'.shift = shOf N ∧ s'.now = now ∧ s'.n = n) := by
            obtain ⟨s1, s2, s3, s4⟩ := hS.out
            exact ⟨e1.trans s1, e2.trans s2, e3.trans s3, e4.trans s4⟩
          clear hB3 hM3 e1 e2 e3 e4 e5 e6 c2 c67 c67' x1 x2 f2 HL
          go_wp2
          go_roundw
          case rel => exact ⟨i + 1, s', upd HB ml (some wr.heap.size), H', F', by omega, by go_num, hB4, hM4, hS4⟩
          case measure => simp [intOf]; omega
        | some b =>
          have c2 : wr.cell? ⟨s.bh, ml, none⟩ = some (.slice (some ⟨b, 0, none⟩) nw nw) := by rw [hB.out.hrow.cell (by rw [S4.out]; exact q1), hHB]; rfl
          have HHB : Hid (HB ml = some b) := hHB
          clear hHB
          go_wp2_with fail
          refine (HC.out _ HB b hB.out HHB.out (fun _ _ => rfl) (.inl rfl)).mono ?_
          rintro e W3 ⟨rfl, s', H', F', hB3, hM3, e1, e2, e3, e4, e5, e6⟩
          have m1 := hB3.mrow.cell hlt2
          have m2 := hB3.mrow.frozen i
          have m3 := hB3.srow.cell hlt2
          have m4 := hB3.srow.frozen i
          have hB4 : Hid (Bld w ((W3.setCell ⟨L + 1, i, none⟩ (.int .i64 ml)).setCell ⟨L + 1 + 1, i, none⟩ (.int .u64 ms)) w.heap.size L w.heap.size (L + 1) (L + 1 + 1) k nw (i + 1) s' HB H' F' (fun j => LS j % n) (fun j => SS j % N)) := FIN.out _ _ _ _ _ hB3
          have hM4 : Hid (Marks n nw s'.busy (i + 1) HB H' (fun j => LS j % n) (fun j => SS j % N)) := hM3
          have hS4 : Hid (s'.slots = N ∧ s'.shift = shOf N ∧ s'.now = now ∧ s'.n = n) := by
            obtain ⟨s1, s2, s3, s4⟩ := hS.out
            exact ⟨e1.trans s1, e2.trans s2, e3.trans s3, e4.trans s4⟩
          clear hB3 hM3 e1 e2 e3 e4 e5 e6 c2 c67 x1 x2
          go_wp2
          go_roundw
          case rel => exact ⟨i + 1, s', HB, H', F', by omega, by go_num, hB4, hM4, hS4⟩
          case measure => simp [intOf]; omega
      · have hik : i = k := by omega
        have hLv : Hid (LvIs wr L s) := hB.out.lv
        have hR0 : Hid (wr.heap[w.heap.size]? = some (.cells lvZero.toArray 33 (0, 0))) := hB.out.res
        have hlL : w.heap.size ≠ L := hB.out.ne2
        have POST : Hid (BuildPost N now k LS SS w (.returned (.tuple #[.agg (lvList s).toArray, .slice (some ⟨L + 1, 0, none⟩) k k, .slice (some ⟨L + 1 + 1, 0, none⟩) k k])) (wr.setRow w.heap.size (lvList s).toArray)) := by
          have hB' := hB.out
          have hM' := hM.out
          rw [hik] at hB' hM'
          have keep : ∀ b, b ≠ w.heap.size → (wr.setRow w.heap.size (lvList s).toArray).heap[b]? = wr.heap[b]? := fun b h => setRow_other _ _ _ _ h
          refine ⟨n, s.bh, L + 1, L + 1 + 1, nw, s, HB, H, rfl, s1, s2, s3, s4, rfl, hn1, hn64, HNW.out, ?_, ?_, ?_, ?_, hM', ?_⟩
          · rw [← s4]; exact hB'.hrow.of_block (keep _ (row_ne hB'.hrow hB'.res (by decide)))
          · intro l b hl hb
            have := (hB'.words l b (by rw [s4]; exact hl) hb).1
            exact this.of_block (keep _ (row_ne this hB'.res (by decide)))
          · exact (hB'.mrow.of_block (keep _ (row_ne hB'.mrow hB'.res (by decide)))).congr fun j hj => by rw [if_pos hj]
          · exact (hB'.srow.of_block (keep _ (row_ne hB'.srow hB'.res (by decide)))).congr fun j hj => by rw [if_pos hj]
          · exact hB'.below.trans (below_setRow' (Nat.le_refl _) _)
        clear hik s1 s2 s3 s4 hS hB hM C1 C2
        go_wp2_with (first | (refine wpList_load33 rfl (.tmp 14) rfl L rfl s hLv.out ?_) | (refine wpList_store_row rfl 33 (.tmp 10) (.tmp 90) rfl w.heap.size (lvList s).toArray rfl rfl 33 lvZero.toArray hR0.out (by rw [Ybad.size33]; simp [length_lvList]) (by simp [length_lvList, length_lvZero]) (one_lvList _) ?_))
        exact bodyPost_ret (v := .tuple #[.agg (lvList s).toArray, .slice (some ⟨L + 1, 0, none⟩) k k, .slice (some ⟨L + 1 + 1, 0, none⟩) k k])
          (results_cell_two Ybad.results7 _ _ w.heap.size 33 (lvList s).toArray (0, 0) _ rfl (setRow_heap _ _ _ _ _ _ hR0.out) Ybad.underlying33 rfl (by rw [Ybad.size33]; simp [length_lvList])) rfl POST.out
end Go.Proofs.YbulkajrsDoor
