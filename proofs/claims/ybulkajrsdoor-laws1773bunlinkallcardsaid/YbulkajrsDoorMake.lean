import Derived.Test.YbulkajrsDoorBase
import Derived.Test.YbulkajrsDoorOrders
namespace Go.Proofs.YbulkajrsDoor
open Go.RowKit
set_option linter.unusedVariables false

/-- The operations of a body's region, by its number. -/
def regionOf (k : Nat) : Code → Option (Array Oper)
  | .region id ops _ => if id = k then some ops else none
  | .seq a b => match regionOf k a with
    | some r => some r
    | none => regionOf k b
  | .cond _ a b => match regionOf k a with
    | some r => some r
    | none => regionOf k b
  | .block _ c => regionOf k c
  | .loop c => regionOf k c
  | .scope c => regionOf k c
  | _ => none

/-- A new 'levels' of n levels of N slots. -/
def lv0 (N n bl bh bf ba : Nat) : Lv := { slots := N, shift := 0, dig := fun _ => 0, n := n, bl := bl, bh := bh, bf := bf, ba := ba, busy := 0, now := 0, count := 0, round := 0 }
theorem built33 (N n bl bh bf ba : Nat) : Ybad.prog.built 33 [(0, .int .u64 N), (3, .slice (some ⟨bl, 0, none⟩) n n), (4, .slice (some ⟨bh, 0, none⟩) n n), (5, .slice (some ⟨bf, 0, none⟩) n n), (10, .slice (some ⟨ba, 0, none⟩) n n)] =
    some (lvList (lv0 N n bl bh bf ba)).toArray := by kernel_rfl
theorem Ybad.info73 : (Ybad.prog.info? 73).map (fun i => (i.zero, i.size, i.bytes)) = some (some (.slice none 0 0), 1, 24) := by kernel_rfl
theorem Ybad.info34 : (Ybad.prog.info? 34).map (fun i => (i.zero, i.size, i.bytes)) = some (some (.slice none 0 0), 1, 24) := by kernel_rfl
theorem Ybad.info3 : (Ybad.prog.info? 3).map (fun i => (i.zero, i.size, i.bytes)) = some (some (.int .i64 0), 1, 8) := by kernel_rfl
theorem Ybad.info74 : (Ybad.prog.info? 74).map (fun i => (i.zero, i.size, i.bytes)) = some (some (.pointer none), 1, 8) := by kernel_rfl

theorem wp_move {P : Program} {o : Oper} {a : Act} {w : World} {K : Act → World → Prop} {Q : Exit → Act → World → Prop} (x : Operand) (ho : o.op = .move x) (h : K (a.put o.dst (a.eval x)) w) : o.wp P a w K Q := by
  unfold Oper.wp execOp
  simp only [ho, Sem.run_pure]
  exact h
theorem wp_make {o : Oper} {a : Act} {w : World} {K : Act → World → Prop} {Q : Exit → Act → World → Prop} (t e : TypeId) (z : Value) (bytes : Nat) (ht : Ybad.prog.underlying t = some (.slice e))
    (hinfo : (Ybad.prog.info? e).map (fun i => (i.zero, i.size, i.bytes)) = some (some z, 1, bytes)) (hz1 : z.cells = #[z]) (n : Nat) (hb : bytes * n ≤ 281474976710656) (h63 : n ≤ 9223372036854775807)
    (x : Operand) (ho : o.op = .makeSlice t x x) (hx : a.eval x = .int .i64 n)
    (h : K (a.put o.dst (.slice (some ⟨w.heap.size, 0, none⟩) n n)) (w.alloc (.cells (madeCells #[z] n) e))) : o.wp Ybad.prog a w K Q := by
  unfold Oper.wp execOp
  simp only [ho, hx, Sem.run_bind, run_make_row' (P := Ybad.prog) t e z bytes ht hinfo hz1 .i64 .i64 n hb h63 w, Result.andThen_ok]
  exact h
theorem wp_conv {o : Oper} {a : Act} {w : World} {K : Act → World → Prop} {Q : Exit → Act → World → Prop} (x : Operand) (ho : o.op = .convert 3 22 x) (N : Nat) (hN : N ≤ 100) (hx : a.eval x = .int .i64 N)
    (h : K (a.put o.dst (.int .u64 N)) w) : o.wp Ybad.prog a w K Q := by
  have hw : IntKind.u64.wrap (N : Int) = N := by rw [IntKind.wrap_u64]; omega
  have hr := run_convert_int (P := Ybad.prog) w 3 22 .i64 (N : Int) (by kernel_rfl) (by kernel_rfl)
  have hk : Ybad.prog.intKind 22 = .u64 := by kernel_rfl
  rw [hk, hw] at hr
  unfold Oper.wp execOp
  simp only [ho, hx, Sem.run_bind, Sem.run_pure, Result.andThen_ok, hr]
  exact h

/-- What is known while the region is under way: which operations are done ('d<i>'), what their slots hold. -/
structure R6 (N n : Nat) (w0 w : World) (d0 d1 d2 d3 d4 d5 d6 d7 d8 d9 d10 d11 d12 : Bool) (x7 x25 x26 x27 x28 x29 x30 x31 x32 x33 x34 x35 : Value) (L bl bh bf ba : Nat) : Prop where
  below : Below w0.heap.size w0 w
  h0 : d0 = true → x25 = .int .i64 N
  h1 : d1 = true → x26 = .int .u64 N
  h2 : d2 = true → x27 = .int .i64 n
  h4 : d4 = true → x29 = .int .i64 n
  h6 : d6 = true → x31 = .int .i64 n
  h8 : d8 = true → x33 = .int .i64 n
  h3 : d3 = true → x28 = .slice (some ⟨bl, 0, none⟩) n n ∧ w.rowIs bl 73 n (fun _ => .slice none 0 0) ∧ w0.heap.size ≤ bl
  h5 : d5 = true → x30 = .slice (some ⟨bh, 0, none⟩) n n ∧ w.rowIs bh 34 n (fun _ => .slice none 0 0) ∧ w0.heap.size ≤ bh
  h7 : d7 = true → x32 = .slice (some ⟨bf, 0, none⟩) n n ∧ w.rowIs bf 3 n (fun _ => .int .i64 0) ∧ w0.heap.size ≤ bf
  h9 : d9 = true → x34 = .slice (some ⟨ba, 0, none⟩) n n ∧ w.rowIs ba 74 n (fun _ => .pointer none) ∧ w0.heap.size ≤ ba
  h10 : d10 = true → x35 = .agg (lvList (lv0 N n bl bh bf ba)).toArray ∧ d3 = true ∧ d5 = true ∧ d7 = true ∧ d9 = true
  h11 : d11 = true → x7 = .pointer (some ⟨L, 0, none⟩) ∧ w0.heap.size ≤ L ∧ w.heap[L]? = some (.cells (if d12 = true then lvList (lv0 N n bl bh bf ba) else lvZero).toArray 33 (0, 0))
  h12 : d12 = true → d11 = true ∧ d10 = true

theorem lt_of_heap {w : World} {L : Nat} {o : Obj} (h : w.heap[L]? = some o) : L < w.heap.size := by
  apply Nat.lt_of_not_le; intro hle
  rw [Array.getElem?_eq_none hle] at h; cases h
theorem below_setRow' {B g : Nat} {w : World} (hBg : B ≤ g) (cs : Array Value) : Below B w (w.setRow g cs) :=
  ⟨rfl, rfl, rfl, by simp [World.setRow], fun k hk => setRow_other w g k cs (by omega)⟩
theorem row_ne {w : World} {b t n : Nat} {f : Nat → Value} {L : Nat} {c : Array Value} {t' : TypeId} (h : w.rowIs b t n f) (h' : w.heap[L]? = some (.cells c t' (0, 0))) (ht : t ≠ t') : b ≠ L := by
  rintro rfl
  obtain ⟨c', hc, _⟩ := h
  rw [hc] at h'
  injection h' with h'
  injection h' with _ h'
  exact ht h'

set_option maxHeartbeats 4000000 in
set_option maxRecDepth 100000 in
theorem region6 (N n : Nat) (hN : N ≤ 100) (hn : n ≤ 64) (ops : Array Oper) (hops : Ybad.f12.body.bind (regionOf 6) = some ops) (w0 : World) (Q : Exit → Act → World → Prop) (c1 c2 c3 c4 c6 c8 c9 c10 c11 c12 c13 c14 c15 c16 c17 c18 c19 c20 c21 c22 c23 c24 c36 c37 c38 c39 c40 c41 c42 c43 c44 c45 c46 c47 c48 c49 c50 c51 c52 c53 c54 c55 c56 c57 c58 c59 x7 x25 x26 x27 x28 x29 x30 x31 x32 x33 x34 x35 : Value)
    (h : ∀ (x7 x25 x26 x27 x28 x29 x30 x31 x32 x33 x34 x35 : Value) (L bl bh bf ba : Nat) (w : World), R6 N n w0 w true true true true true true true true true true true true true x7 x25 x26 x27 x28 x29 x30 x31 x32 x33 x34 x35 L bl bh bf ba → Q .normal ⟨(.int .i64 N :: c1 :: c2 :: c3 :: c4 :: .int .i64 n :: c6 :: x7 :: c8 :: c9 :: c10 :: c11 :: c12 :: c13 :: c14 :: c15 :: c16 :: c17 :: c18 :: c19 :: c20 :: c21 :: c22 :: c23 :: c24 :: x25 :: x26 :: x27 :: x28 :: x29 :: x30 :: x31 :: x32 :: x33 :: x34 :: x35 :: c36 :: c37 :: c38 :: c39 :: c40 :: c41 :: c42 :: c43 :: c44 :: c45 :: c46 :: c47 :: c48 :: c49 :: c50 :: c51 :: c52 :: c53 :: c54 :: c55 :: c56 :: c57 :: c58 :: c59 :: []).toArray, []⟩ w) :
    (Code.region 6 ops true).wp Ybad.prog Q ⟨(.int .i64 N :: c1 :: c2 :: c3 :: c4 :: .int .i64 n :: c6 :: x7 :: c8 :: c9 :: c10 :: c11 :: c12 :: c13 :: c14 :: c15 :: c16 :: c17 :: c18 :: c19 :: c20 :: c21 :: c22 :: c23 :: c24 :: x25 :: x26 :: x27 :: x28 :: x29 :: x30 :: x31 :: x32 :: x33 :: x34 :: x35 :: c36 :: c37 :: c38 :: c39 :: c40 :: c41 :: c42 :: c43 :: c44 :: c45 :: c46 :: c47 :: c48 :: c49 :: c50 :: c51 :: c52 :: c53 :: c54 :: c55 :: c56 :: c57 :: c58 :: c59 :: []).toArray, []⟩ w0 := by
  have hall : ops.map (fun o => (o.dst, o.op, o.after, o.guard)) = #[(some 25, Op.move (Operand.tmp 0), #[], none), (some 26, Op.convert 3 22 (Operand.tmp 25), #[{ on := 0, ground := Ground.data }], none), (some 27, Op.move (Operand.tmp 5), #[], none), (some 28, Op.makeSlice 27 (Operand.tmp 27) (Operand.tmp 27), #[{ on := 2, ground := Ground.data }, { on := 2, ground := Ground.data }], none), (some 29, Op.move (Operand.tmp 5), #[], none), (some 30, Op.makeSlice 28 (Operand.tmp 29) (Operand.tmp 29), #[{ on := 4, ground := Ground.data }, { on := 4, ground := Ground.data }], none), (some 31, Op.move (Operand.tmp 5), #[], none), (some 32, Op.makeSlice 29 (Operand.tmp 31) (Operand.tmp 31), #[{ on := 6, ground := Ground.data }, { on := 6, ground := Ground.data }], none), (some 33, Op.move (Operand.tmp 5), #[], none), (some 34, Op.makeSlice 31 (Operand.tmp 33) (Operand.tmp 33), #[{ on := 8, ground := Ground.data }, { on := 8, ground := Ground.data }], none), (some 35, Op.build 33 #[(0, Operand.tmp 26), (3, Operand.tmp 28), (4, Operand.tmp 30), (5, Operand.tmp 32), (10, Operand.tmp 34)], #[{ on := 1, ground := Ground.data }, { on := 3, ground := Ground.data }, { on := 5, ground := Ground.data }, { on := 7, ground := Ground.data }, { on := 9, ground := Ground.data }], none), (some 7, Op.alloc 33, #[], none), (none, Op.store 33 (Operand.tmp 7) (Operand.tmp 35), #[{ on := 11, ground := Ground.data }, { on := 10, ground := Ground.data }, { on := 0, ground := Ground.phase }, { on := 1, ground := Ground.phase }, { on := 2, ground := Ground.phase }, { on := 3, ground := Ground.phase }, { on := 4, ground := Ground.phase }, { on := 5, ground := Ground.phase }, { on := 6, ground := Ground.phase }, { on := 7, ground := Ground.phase }, { on := 8, ground := Ground.phase }, { on := 9, ground := Ground.phase }, { on := 10, ground := Ground.phase }, { on := 11, ground := Ground.phase }], none)] := by
    have e : (Ybad.f12.body.bind (regionOf 6)).map (fun ops => ops.map (fun o => (o.dst, o.op, o.after, o.guard))) = some #[(some 25, Op.move (Operand.tmp 0), #[], none), (some 26, Op.convert 3 22 (Operand.tmp 25), #[{ on := 0, ground := Ground.data }], none), (some 27, Op.move (Operand.tmp 5), #[], none), (some 28, Op.makeSlice 27 (Operand.tmp 27) (Operand.tmp 27), #[{ on := 2, ground := Ground.data }, { on := 2, ground := Ground.data }], none), (some 29, Op.move (Operand.tmp 5), #[], none), (some 30, Op.makeSlice 28 (Operand.tmp 29) (Operand.tmp 29), #[{ on := 4, ground := Ground.data }, { on := 4, ground := Ground.data }], none), (some 31, Op.move (Operand.tmp 5), #[], none), (some 32, Op.makeSlice 29 (Operand.tmp 31) (Operand.tmp 31), #[{ on := 6, ground := Ground.data }, { on := 6, ground := Ground.data }], none), (some 33, Op.move (Operand.tmp 5), #[], none), (some 34, Op.makeSlice 31 (Operand.tmp 33) (Operand.tmp 33), #[{ on := 8, ground := Ground.data }, { on := 8, ground := Ground.data }], none), (some 35, Op.build 33 #[(0, Operand.tmp 26), (3, Operand.tmp 28), (4, Operand.tmp 30), (5, Operand.tmp 32), (10, Operand.tmp 34)], #[{ on := 1, ground := Ground.data }, { on := 3, ground := Ground.data }, { on := 5, ground := Ground.data }, { on := 7, ground := Ground.data }, { on := 9, ground := Ground.data }], none), (some 7, Op.alloc 33, #[], none), (none, Op.store 33 (Operand.tmp 7) (Operand.tmp 35), #[{ on := 11, ground := Ground.data }, { on := 10, ground := Ground.data }, { on := 0, ground := Ground.phase }, { on := 1, ground := Ground.phase }, { on := 2, ground := Ground.phase }, { on := 3, ground := Ground.phase }, { on := 4, ground := Ground.phase }, { on := 5, ground := Ground.phase }, { on := 6, ground := Ground.phase }, { on := 7, ground := Ground.phase }, { on := 8, ground := Ground.phase }, { on := 9, ground := Ground.phase }, { on := 10, ground := Ground.phase }, { on := 11, ground := Ground.phase }], none)] := by kernel_rfl
    rw [hops] at e
    exact Option.some.inj e
  have hsize : ops.size = 13 := by have := congrArg Array.size hall; simpa using this
  have hget : ∀ (i : Nat) (o : Oper), ops[i]? = some o → (#[(some 25, Op.move (Operand.tmp 0), #[], none), (some 26, Op.convert 3 22 (Operand.tmp 25), #[{ on := 0, ground := Ground.data }], none), (some 27, Op.move (Operand.tmp 5), #[], none), (some 28, Op.makeSlice 27 (Operand.tmp 27) (Operand.tmp 27), #[{ on := 2, ground := Ground.data }, { on := 2, ground := Ground.data }], none), (some 29, Op.move (Operand.tmp 5), #[], none), (some 30, Op.makeSlice 28 (Operand.tmp 29) (Operand.tmp 29), #[{ on := 4, ground := Ground.data }, { on := 4, ground := Ground.data }], none), (some 31, Op.move (Operand.tmp 5), #[], none), (some 32, Op.makeSlice 29 (Operand.tmp 31) (Operand.tmp 31), #[{ on := 6, ground := Ground.data }, { on := 6, ground := Ground.data }], none), (some 33, Op.move (Operand.tmp 5), #[], none), (some 34, Op.makeSlice 31 (Operand.tmp 33) (Operand.tmp 33), #[{ on := 8, ground := Ground.data }, { on := 8, ground := Ground.data }], none), (some 35, Op.build 33 #[(0, Operand.tmp 26), (3, Operand.tmp 28), (4, Operand.tmp 30), (5, Operand.tmp 32), (10, Operand.tmp 34)], #[{ on := 1, ground := Ground.data }, { on := 3, ground := Ground.data }, { on := 5, ground := Ground.data }, { on := 7, ground := Ground.data }, { on := 9, ground := Ground.data }], none), (some 7, Op.alloc 33, #[], none), (none, Op.store 33 (Operand.tmp 7) (Operand.tmp 35), #[{ on := 11, ground := Ground.data }, { on := 10, ground := Ground.data }, { on := 0, ground := Ground.phase }, { on := 1, ground := Ground.phase }, { on := 2, ground := Ground.phase }, { on := 3, ground := Ground.phase }, { on := 4, ground := Ground.phase }, { on := 5, ground := Ground.phase }, { on := 6, ground := Ground.phase }, { on := 7, ground := Ground.phase }, { on := 8, ground := Ground.phase }, { on := 9, ground := Ground.phase }, { on := 10, ground := Ground.phase }, { on := 11, ground := Ground.phase }], none)])[i]? = some (o.dst, o.op, o.after, o.guard) := by
    intro i o ho
    rw [← hall, Array.getElem?_map, ho]; rfl
  refine wp_region_inv (by kernel_rfl) (fun listed a w => ∃ (d0 d1 d2 d3 d4 d5 d6 d7 d8 d9 d10 d11 d12 : Bool) (x7 x25 x26 x27 x28 x29 x30 x31 x32 x33 x34 x35 : Value) (L bl bh bf ba : Nat), listed = #[d0, d1, d2, d3, d4, d5, d6, d7, d8, d9, d10, d11, d12] ∧ a = ⟨(.int .i64 N :: c1 :: c2 :: c3 :: c4 :: .int .i64 n :: c6 :: x7 :: c8 :: c9 :: c10 :: c11 :: c12 :: c13 :: c14 :: c15 :: c16 :: c17 :: c18 :: c19 :: c20 :: c21 :: c22 :: c23 :: c24 :: x25 :: x26 :: x27 :: x28 :: x29 :: x30 :: x31 :: x32 :: x33 :: x34 :: x35 :: c36 :: c37 :: c38 :: c39 :: c40 :: c41 :: c42 :: c43 :: c44 :: c45 :: c46 :: c47 :: c48 :: c49 :: c50 :: c51 :: c52 :: c53 :: c54 :: c55 :: c56 :: c57 :: c58 :: c59 :: []).toArray, []⟩ ∧ R6 N n w0 w d0 d1 d2 d3 d4 d5 d6 d7 d8 d9 d10 d11 d12 x7 x25 x26 x27 x28 x29 x30 x31 x32 x33 x34 x35 L bl bh bf ba) ?_ ?_ ?_ ?_
  · rintro listed a w ⟨d0, d1, d2, d3, d4, d5, d6, d7, d8, d9, d10, d11, d12, x7, x25, x26, x27, x28, x29, x30, x31, x32, x33, x34, x35, L, bl, bh, bf, ba, rfl, rfl, R⟩
    rw [hsize]; rfl
  · rintro listed a w ⟨d0, d1, d2, d3, d4, d5, d6, d7, d8, d9, d10, d11, d12, x7, x25, x26, x27, x28, x29, x30, x31, x32, x33, x34, x35, L, bl, bh, bf, ba, rfl, rfl, R⟩ i o ho hl he
    have hg := hget i o ho
    have hi : i < 13 := by rw [← hsize]; exact (Array.getElem?_eq_some_iff.1 ho).1
    match i, hi with
    | 0, _ =>
      obtain ⟨hd, hop, haf, hgu⟩ : o.dst = some 25 ∧ o.op = Op.move (Operand.tmp 0) ∧ o.after = #[] ∧ o.guard = none := by simpa [eq_comm] using hg
      have hdf : d0 = false := by simpa using hl
      refine ⟨hgu, ?_⟩
      refine wp_move _ hop ?_
      refine ⟨true, d1, d2, d3, d4, d5, d6, d7, d8, d9, d10, d11, d12, x7, .int .i64 N, x26, x27, x28, x29, x30, x31, x32, x33, x34, x35, L, bl, bh, bf, ba, by simp, by rw [hd]; rfl, ?_⟩
      exact { below := R.below, h0 := (fun _ => rfl), h1 := R.h1, h2 := R.h2, h4 := R.h4, h6 := R.h6, h8 := R.h8, h3 := R.h3, h5 := R.h5, h7 := R.h7, h9 := R.h9, h10 := R.h10, h11 := R.h11, h12 := R.h12 }
    | 1, _ =>
      obtain ⟨hd, hop, haf, hgu⟩ : o.dst = some 26 ∧ o.op = Op.convert 3 22 (Operand.tmp 25) ∧ o.after = #[{ on := 0, ground := Ground.data }] ∧ o.guard = none := by simpa [eq_comm] using hg
      have hdf : d1 = false := by simpa using hl
      refine ⟨hgu, ?_⟩
      have e0 : d0 = true := by have := he ⟨0, .data⟩ (by rw [haf]; simp) rfl; simpa using this
      refine wp_conv _ hop N hN (by rw [R.h0 e0]; rfl) ?_
      refine ⟨d0, true, d2, d3, d4, d5, d6, d7, d8, d9, d10, d11, d12, x7, x25, .int .u64 N, x27, x28, x29, x30, x31, x32, x33, x34, x35, L, bl, bh, bf, ba, by simp, by rw [hd]; rfl, ?_⟩
      exact { below := R.below, h0 := R.h0, h1 := (fun _ => rfl), h2 := R.h2, h4 := R.h4, h6 := R.h6, h8 := R.h8, h3 := R.h3, h5 := R.h5, h7 := R.h7, h9 := R.h9, h10 := R.h10, h11 := R.h11, h12 := R.h12 }
    | 2, _ =>
      obtain ⟨hd, hop, haf, hgu⟩ : o.dst = some 27 ∧ o.op = Op.move (Operand.tmp 5) ∧ o.after = #[] ∧ o.guard = none := by simpa [eq_comm] using hg
      have hdf : d2 = false := by simpa using hl
      refine ⟨hgu, ?_⟩
      refine wp_move _ hop ?_
      refine ⟨d0, d1, true, d3, d4, d5, d6, d7, d8, d9, d10, d11, d12, x7, x25, x26, .int .i64 n, x28, x29, x30, x31, x32, x33, x34, x35, L, bl, bh, bf, ba, by simp, by rw [hd]; rfl, ?_⟩
      exact { below := R.below, h0 := R.h0, h1 := R.h1, h2 := (fun _ => rfl), h4 := R.h4, h6 := R.h6, h8 := R.h8, h3 := R.h3, h5 := R.h5, h7 := R.h7, h9 := R.h9, h10 := R.h10, h11 := R.h11, h12 := R.h12 }
    | 3, _ =>
      obtain ⟨hd, hop, haf, hgu⟩ : o.dst = some 28 ∧ o.op = Op.makeSlice 27 (Operand.tmp 27) (Operand.tmp 27) ∧ o.after = #[{ on := 2, ground := Ground.data }, { on := 2, ground := Ground.data }] ∧ o.guard = none := by simpa [eq_comm] using hg
      have hdf : d3 = false := by simpa using hl
      refine ⟨hgu, ?_⟩
      have e0 : d2 = true := by have := he ⟨2, .data⟩ (by rw [haf]; simp) rfl; simpa using this
      refine wp_make 27 73 (.slice none 0 0) 24 Ybad.underlying27 Ybad.info73 rfl n (by omega) (by omega) _ hop (by rw [R.h2 e0]; rfl) ?_
      refine ⟨d0, d1, d2, true, d4, d5, d6, d7, d8, d9, d10, d11, d12, x7, x25, x26, x27, .slice (some ⟨w.heap.size, 0, none⟩) n n, x29, x30, x31, x32, x33, x34, x35, L, w.heap.size, bh, bf, ba, by simp, by rw [hd]; rfl, ?_⟩
      exact { below := R.below.alloc R.below.size _, h0 := R.h0, h1 := R.h1, h2 := R.h2, h4 := R.h4, h6 := R.h6, h8 := R.h8, h3 := (fun _ => ⟨rfl, World.rowIs_made w _ n 73, R.below.size⟩), h5 := (fun h => ⟨(R.h5 h).1, (R.h5 h).2.1.alloc _, (R.h5 h).2.2⟩), h7 := (fun h => ⟨(R.h7 h).1, (R.h7 h).2.1.alloc _, (R.h7 h).2.2⟩), h9 := (fun h => ⟨(R.h9 h).1, (R.h9 h).2.1.alloc _, (R.h9 h).2.2⟩), h10 := (fun h => by have := R.h10 h; simp [hdf] at this), h11 := (fun h => ⟨(R.h11 h).1, (R.h11 h).2.1, by cases hh : d12 with | true => exact absurd (R.h10 (R.h12 hh).2) (by simp [hdf]) | false => have := (R.h11 h).2.2; rw [hh] at this; rw [Below.heap_alloc _ _ _ (lt_of_heap this)]; exact this⟩), h12 := R.h12 }
    | 4, _ =>
      obtain ⟨hd, hop, haf, hgu⟩ : o.dst = some 29 ∧ o.op = Op.move (Operand.tmp 5) ∧ o.after = #[] ∧ o.guard = none := by simpa [eq_comm] using hg
      have hdf : d4 = false := by simpa using hl
      refine ⟨hgu, ?_⟩
      refine wp_move _ hop ?_
      refine ⟨d0, d1, d2, d3, true, d5, d6, d7, d8, d9, d10, d11, d12, x7, x25, x26, x27, x28, .int .i64 n, x30, x31, x32, x33, x34, x35, L, bl, bh, bf, ba, by simp, by rw [hd]; rfl, ?_⟩
      exact { below := R.below, h0 := R.h0, h1 := R.h1, h2 := R.h2, h4 := (fun _ => rfl), h6 := R.h6, h8 := R.h8, h3 := R.h3, h5 := R.h5, h7 := R.h7, h9 := R.h9, h10 := R.h10, h11 := R.h11, h12 := R.h12 }
    | 5, _ =>
      obtain ⟨hd, hop, haf, hgu⟩ : o.dst = some 30 ∧ o.op = Op.makeSlice 28 (Operand.tmp 29) (Operand.tmp 29) ∧ o.after = #[{ on := 4, ground := Ground.data }, { on := 4, ground := Ground.data }] ∧ o.guard = none := by simpa [eq_comm] using hg
      have hdf : d5 = false := by simpa using hl
      refine ⟨hgu, ?_⟩
      have e0 : d4 = true := by have := he ⟨4, .data⟩ (by rw [haf]; simp) rfl; simpa using this
      refine wp_make 28 34 (.slice none 0 0) 24 Ybad.underlying28 Ybad.info34 rfl n (by omega) (by omega) _ hop (by rw [R.h4 e0]; rfl) ?_
      refine ⟨d0, d1, d2, d3, d4, true, d6, d7, d8, d9, d10, d11, d12, x7, x25, x26, x27, x28, x29, .slice (some ⟨w.heap.size, 0, none⟩) n n, x31, x32, x33, x34, x35, L, bl, w.heap.size, bf, ba, by simp, by rw [hd]; rfl, ?_⟩
      exact { below := R.below.alloc R.below.size _, h0 := R.h0, h1 := R.h1, h2 := R.h2, h4 := R.h4, h6 := R.h6, h8 := R.h8, h3 := (fun h => ⟨(R.h3 h).1, (R.h3 h).2.1.alloc _, (R.h3 h).2.2⟩), h5 := (fun _ => ⟨rfl, World.rowIs_made w _ n 34, R.below.size⟩), h7 := (fun h => ⟨(R.h7 h).1, (R.h7 h).2.1.alloc _, (R.h7 h).2.2⟩), h9 := (fun h => ⟨(R.h9 h).1, (R.h9 h).2.1.alloc _, (R.h9 h).2.2⟩), h10 := (fun h => by have := R.h10 h; simp [hdf] at this), h11 := (fun h => ⟨(R.h11 h).1, (R.h11 h).2.1, by cases hh : d12 with | true => exact absurd (R.h10 (R.h12 hh).2) (by simp [hdf]) | false => have := (R.h11 h).2.2; rw [hh] at this; rw [Below.heap_alloc _ _ _ (lt_of_heap this)]; exact this⟩), h12 := R.h12 }
    | 6, _ =>
      obtain ⟨hd, hop, haf, hgu⟩ : o.dst = some 31 ∧ o.op = Op.move (Operand.tmp 5) ∧ o.after = #[] ∧ o.guard = none := by simpa [eq_comm] using hg
      have hdf : d6 = false := by simpa using hl
      refine ⟨hgu, ?_⟩
      refine wp_move _ hop ?_
      refine ⟨d0, d1, d2, d3, d4, d5, true, d7, d8, d9, d10, d11, d12, x7, x25, x26, x27, x28, x29, x30, .int .i64 n, x32, x33, x34, x35, L, bl, bh, bf, ba, by simp, by rw [hd]; rfl, ?_⟩
      exact { below := R.below, h0 := R.h0, h1 := R.h1, h2 := R.h2, h4 := R.h4, h6 := (fun _ => rfl), h8 := R.h8, h3 := R.h3, h5 := R.h5, h7 := R.h7, h9 := R.h9, h10 := R.h10, h11 := R.h11, h12 := R.h12 }
    | 7, _ =>
      obtain ⟨hd, hop, haf, hgu⟩ : o.dst = some 32 ∧ o.op = Op.makeSlice 29 (Operand.tmp 31) (Operand.tmp 31) ∧ o.after = #[{ on := 6, ground := Ground.data }, { on := 6, ground := Ground.data }] ∧ o.guard = none := by simpa [eq_comm] using hg
      have hdf : d7 = false := by simpa using hl
      refine ⟨hgu, ?_⟩
      have e0 : d6 = true := by have := he ⟨6, .data⟩ (by rw [haf]; simp) rfl; simpa using this
      refine wp_make 29 3 (.int .i64 0) 8 Ybad.underlying29 Ybad.info3 rfl n (by omega) (by omega) _ hop (by rw [R.h6 e0]; rfl) ?_
      refine ⟨d0, d1, d2, d3, d4, d5, d6, true, d8, d9, d10, d11, d12, x7, x25, x26, x27, x28, x29, x30, x31, .slice (some ⟨w.heap.size, 0, none⟩) n n, x33, x34, x35, L, bl, bh, w.heap.size, ba, by simp, by rw [hd]; rfl, ?_⟩
      exact { below := R.below.alloc R.below.size _, h0 := R.h0, h1 := R.h1, h2 := R.h2, h4 := R.h4, h6 := R.h6, h8 := R.h8, h3 := (fun h => ⟨(R.h3 h).1, (R.h3 h).2.1.alloc _, (R.h3 h).2.2⟩), h5 := (fun h => ⟨(R.h5 h).1, (R.h5 h).2.1.alloc _, (R.h5 h).2.2⟩), h7 := (fun _ => ⟨rfl, World.rowIs_made w _ n 3, R.below.size⟩), h9 := (fun h => ⟨(R.h9 h).1, (R.h9 h).2.1.alloc _, (R.h9 h).2.2⟩), h10 := (fun h => by have := R.h10 h; simp [hdf] at this), h11 := (fun h => ⟨(R.h11 h).1, (R.h11 h).2.1, by cases hh : d12 with | true => exact absurd (R.h10 (R.h12 hh).2) (by simp [hdf]) | false => have := (R.h11 h).2.2; rw [hh] at this; rw [Below.heap_alloc _ _ _ (lt_of_heap this)]; exact this⟩), h12 := R.h12 }
    | 8, _ =>
      obtain ⟨hd, hop, haf, hgu⟩ : o.dst = some 33 ∧ o.op = Op.move (Operand.tmp 5) ∧ o.after = #[] ∧ o.guard = none := by simpa [eq_comm] using hg
      have hdf : d8 = false := by simpa using hl
      refine ⟨hgu, ?_⟩
      refine wp_move _ hop ?_
      refine ⟨d0, d1, d2, d3, d4, d5, d6, d7, true, d9, d10, d11, d12, x7, x25, x26, x27, x28, x29, x30, x31, x32, .int .i64 n, x34, x35, L, bl, bh, bf, ba, by simp, by rw [hd]; rfl, ?_⟩
      exact { below := R.below, h0 := R.h0, h1 := R.h1, h2 := R.h2, h4 := R.h4, h6 := R.h6, h8 := (fun _ => rfl), h3 := R.h3, h5 := R.h5, h7 := R.h7, h9 := R.h9, h10 := R.h10, h11 := R.h11, h12 := R.h12 }
    | 9, _ =>
      obtain ⟨hd, hop, haf, hgu⟩ : o.dst = some 34 ∧ o.op = Op.makeSlice 31 (Operand.tmp 33) (Operand.tmp 33) ∧ o.after = #[{ on := 8, ground := Ground.data }, { on := 8, ground := Ground.data }] ∧ o.guard = none := by simpa [eq_comm] using hg
      have hdf : d9 = false := by simpa using hl
      refine ⟨hgu, ?_⟩
      have e0 : d8 = true := by have := he ⟨8, .data⟩ (by rw [haf]; simp) rfl; simpa using this
      refine wp_make 31 74 (.pointer none) 8 Ybad.underlying31 Ybad.info74 rfl n (by omega) (by omega) _ hop (by rw [R.h8 e0]; rfl) ?_
      refine ⟨d0, d1, d2, d3, d4, d5, d6, d7, d8, true, d10, d11, d12, x7, x25, x26, x27, x28, x29, x30, x31, x32, x33, .slice (some ⟨w.heap.size, 0, none⟩) n n, x35, L, bl, bh, bf, w.heap.size, by simp, by rw [hd]; rfl, ?_⟩
      exact { below := R.below.alloc R.below.size _, h0 := R.h0, h1 := R.h1, h2 := R.h2, h4 := R.h4, h6 := R.h6, h8 := R.h8, h3 := (fun h => ⟨(R.h3 h).1, (R.h3 h).2.1.alloc _, (R.h3 h).2.2⟩), h5 := (fun h => ⟨(R.h5 h).1, (R.h5 h).2.1.alloc _, (R.h5 h).2.2⟩), h7 := (fun h => ⟨(R.h7 h).1, (R.h7 h).2.1.alloc _, (R.h7 h).2.2⟩), h9 := (fun _ => ⟨rfl, World.rowIs_made w _ n 74, R.below.size⟩), h10 := (fun h => by have := R.h10 h; simp [hdf] at this), h11 := (fun h => ⟨(R.h11 h).1, (R.h11 h).2.1, by cases hh : d12 with | true => exact absurd (R.h10 (R.h12 hh).2) (by simp [hdf]) | false => have := (R.h11 h).2.2; rw [hh] at this; rw [Below.heap_alloc _ _ _ (lt_of_heap this)]; exact this⟩), h12 := R.h12 }
    | 10, _ =>
      obtain ⟨hd, hop, haf, hgu⟩ : o.dst = some 35 ∧ o.op = Op.build 33 #[(0, Operand.tmp 26), (3, Operand.tmp 28), (4, Operand.tmp 30), (5, Operand.tmp 32), (10, Operand.tmp 34)] ∧ o.after = #[{ on := 1, ground := Ground.data }, { on := 3, ground := Ground.data }, { on := 5, ground := Ground.data }, { on := 7, ground := Ground.data }, { on := 9, ground := Ground.data }] ∧ o.guard = none := by simpa [eq_comm] using hg
      have hdf : d10 = false := by simpa using hl
      refine ⟨hgu, ?_⟩
      have e1 : d1 = true := by have := he ⟨1, .data⟩ (by rw [haf]; simp) rfl; simpa using this
      have e3 : d3 = true := by have := he ⟨3, .data⟩ (by rw [haf]; simp) rfl; simpa using this
      have e5 : d5 = true := by have := he ⟨5, .data⟩ (by rw [haf]; simp) rfl; simpa using this
      have e7 : d7 = true := by have := he ⟨7, .data⟩ (by rw [haf]; simp) rfl; simpa using this
      have e9 : d9 = true := by have := he ⟨9, .data⟩ (by rw [haf]; simp) rfl; simpa using this
      have hb := built33 N n bl bh bf ba
      have hp : (#[(0, Operand.tmp 26), (3, Operand.tmp 28), (4, Operand.tmp 30), (5, Operand.tmp 32), (10, Operand.tmp 34)].map fun (i, x) => (i, (⟨(.int .i64 N :: c1 :: c2 :: c3 :: c4 :: .int .i64 n :: c6 :: x7 :: c8 :: c9 :: c10 :: c11 :: c12 :: c13 :: c14 :: c15 :: c16 :: c17 :: c18 :: c19 :: c20 :: c21 :: c22 :: c23 :: c24 :: x25 :: x26 :: x27 :: x28 :: x29 :: x30 :: x31 :: x32 :: x33 :: x34 :: x35 :: c36 :: c37 :: c38 :: c39 :: c40 :: c41 :: c42 :: c43 :: c44 :: c45 :: c46 :: c47 :: c48 :: c49 :: c50 :: c51 :: c52 :: c53 :: c54 :: c55 :: c56 :: c57 :: c58 :: c59 :: []).toArray, []⟩ : Act).eval x)).toList = [(0, .int .u64 N), (3, .slice (some ⟨bl, 0, none⟩) n n), (4, .slice (some ⟨bh, 0, none⟩) n n), (5, .slice (some ⟨bf, 0, none⟩) n n), (10, .slice (some ⟨ba, 0, none⟩) n n)] := by
        rw [R.h1 e1, (R.h3 e3).1, (R.h5 e5).1, (R.h7 e7).1, (R.h9 e9).1]; simp [Act.eval]
      refine wp_build 33 _ hop (by rw [hp, hb]; rfl) ?_
      rw [hp, hb]
      refine ⟨d0, d1, d2, d3, d4, d5, d6, d7, d8, d9, true, d11, d12, x7, x25, x26, x27, x28, x29, x30, x31, x32, x33, x34, .agg (lvList (lv0 N n bl bh bf ba)).toArray, L, bl, bh, bf, ba, by simp, by rw [hd]; rfl, ?_⟩
      exact { below := R.below, h0 := R.h0, h1 := R.h1, h2 := R.h2, h4 := R.h4, h6 := R.h6, h8 := R.h8, h3 := R.h3, h5 := R.h5, h7 := R.h7, h9 := R.h9, h10 := (fun _ => ⟨rfl, e3, e5, e7, e9⟩), h11 := R.h11, h12 := (fun h => ⟨(R.h12 h).1, rfl⟩) }
    | 11, _ =>
      obtain ⟨hd, hop, haf, hgu⟩ : o.dst = some 7 ∧ o.op = Op.alloc 33 ∧ o.after = #[] ∧ o.guard = none := by simpa [eq_comm] using hg
      have hdf : d11 = false := by simpa using hl
      refine ⟨hgu, ?_⟩
      refine wp_alloc33 hop ?_
      refine ⟨d0, d1, d2, d3, d4, d5, d6, d7, d8, d9, d10, true, d12, .pointer (some ⟨w.heap.size, 0, none⟩), x25, x26, x27, x28, x29, x30, x31, x32, x33, x34, x35, w.heap.size, bl, bh, bf, ba, by simp, by rw [hd]; rfl, ?_⟩
      exact { below := R.below.alloc R.below.size _, h0 := R.h0, h1 := R.h1, h2 := R.h2, h4 := R.h4, h6 := R.h6, h8 := R.h8, h3 := (fun h => ⟨(R.h3 h).1, (R.h3 h).2.1.alloc _, (R.h3 h).2.2⟩), h5 := (fun h => ⟨(R.h5 h).1, (R.h5 h).2.1.alloc _, (R.h5 h).2.2⟩), h7 := (fun h => ⟨(R.h7 h).1, (R.h7 h).2.1.alloc _, (R.h7 h).2.2⟩), h9 := (fun h => ⟨(R.h9 h).1, (R.h9 h).2.1.alloc _, (R.h9 h).2.2⟩), h10 := R.h10, h11 := (fun _ => ⟨rfl, R.below.size, by cases hh : d12 with | true => exact absurd (R.h12 hh).1 (by simp [hdf]) | false => exact heap_alloc_new _ _⟩), h12 := (fun h => ⟨rfl, (R.h12 h).2⟩) }
    | 12, _ =>
      obtain ⟨hd, hop, haf, hgu⟩ : o.dst = none ∧ o.op = Op.store 33 (Operand.tmp 7) (Operand.tmp 35) ∧ o.after = #[{ on := 11, ground := Ground.data }, { on := 10, ground := Ground.data }, { on := 0, ground := Ground.phase }, { on := 1, ground := Ground.phase }, { on := 2, ground := Ground.phase }, { on := 3, ground := Ground.phase }, { on := 4, ground := Ground.phase }, { on := 5, ground := Ground.phase }, { on := 6, ground := Ground.phase }, { on := 7, ground := Ground.phase }, { on := 8, ground := Ground.phase }, { on := 9, ground := Ground.phase }, { on := 10, ground := Ground.phase }, { on := 11, ground := Ground.phase }] ∧ o.guard = none := by simpa [eq_comm] using hg
      have hdf : d12 = false := by simpa using hl
      refine ⟨hgu, ?_⟩
      have e11 : d11 = true := by have := he ⟨11, .data⟩ (by rw [haf]; simp) rfl; simpa using this
      have e10 : d10 = true := by have := he ⟨10, .data⟩ (by rw [haf]; simp) rfl; simpa using this
      obtain ⟨k1, k2, k3⟩ := R.h11 e11
      obtain ⟨g1, g3, g5, g7, g9⟩ := R.h10 e10
      rw [hdf] at k3
      refine wp_store_row 33 _ _ hop L (lvList (lv0 N n bl bh bf ba)).toArray (by rw [k1]; rfl) (by rw [g1]; rfl) 33 _ k3 (by rw [Ybad.size33]; simp [length_lvList]) (by simp [length_lvList, length_lvZero]) (one_lvList _) ?_
      refine ⟨d0, d1, d2, d3, d4, d5, d6, d7, d8, d9, d10, d11, true, x7, x25, x26, x27, x28, x29, x30, x31, x32, x33, x34, x35, L, bl, bh, bf, ba, by simp, by rw [hd]; rfl, ?_⟩
      exact { below := R.below.trans (below_setRow' k2 _), h0 := R.h0, h1 := R.h1, h2 := R.h2, h4 := R.h4, h6 := R.h6, h8 := R.h8, h3 := (fun h => ⟨(R.h3 h).1, (R.h3 h).2.1.of_block (setRow_other _ _ _ _ (row_ne (R.h3 h).2.1 k3 (by decide))), (R.h3 h).2.2⟩), h5 := (fun h => ⟨(R.h5 h).1, (R.h5 h).2.1.of_block (setRow_other _ _ _ _ (row_ne (R.h5 h).2.1 k3 (by decide))), (R.h5 h).2.2⟩), h7 := (fun h => ⟨(R.h7 h).1, (R.h7 h).2.1.of_block (setRow_other _ _ _ _ (row_ne (R.h7 h).2.1 k3 (by decide))), (R.h7 h).2.2⟩), h9 := (fun h => ⟨(R.h9 h).1, (R.h9 h).2.1.of_block (setRow_other _ _ _ _ (row_ne (R.h9 h).2.1 k3 (by decide))), (R.h9 h).2.2⟩), h10 := R.h10, h11 := (fun h => ⟨k1, k2, by rw [if_pos rfl]; exact setRow_heap _ _ _ _ _ _ k3⟩), h12 := (fun _ => ⟨e11, e10⟩) }
  · rintro listed a w ⟨d0, d1, d2, d3, d4, d5, d6, d7, d8, d9, d10, d11, d12, x7, x25, x26, x27, x28, x29, x30, x31, x32, x33, x34, x35, L, bl, bh, bf, ba, rfl, rfl, R⟩ hr
    have hnot : ∀ i, i ∉ Region.ready .any ops #[d0, d1, d2, d3, d4, d5, d6, d7, d8, d9, d10, d11, d12] := fun i => by rw [hr]; simp
    have key : ∀ (i : Nat) (o : Oper), ops[i]? = some o → (#[d0, d1, d2, d3, d4, d5, d6, d7, d8, d9, d10, d11, d12] : Array Bool)[i]? = some false → ¬ (∀ e ∈ o.after, Region.binds .any e = true → (#[d0, d1, d2, d3, d4, d5, d6, d7, d8, d9, d10, d11, d12] : Array Bool).getD e.on false = true) := by
      intro i o ho hl he
      exact hnot i (mem_ready.2 ⟨by rw [Array.getD_eq_getD_getElem?, hl]; rfl, o, ho, he⟩)
    have f0 : d0 = true := by
      cases hc : d0 with
      | true => rfl
      | false =>
        exfalso
        obtain ⟨o, ho⟩ : ∃ o, ops[0]? = some o := ⟨_, Array.getElem?_eq_getElem (by omega)⟩
        obtain ⟨_, _, haf, _⟩ : o.dst = some 25 ∧ o.op = Op.move (Operand.tmp 0) ∧ o.after = #[] ∧ o.guard = none := by simpa [eq_comm] using hget 0 o ho
        refine key 0 o ho (by simp [hc]) ?_
        intro e hmem _
        rw [haf] at hmem
        simp at hmem
    have f2 : d2 = true := by
      cases hc : d2 with
      | true => rfl
      | false =>
        exfalso
        obtain ⟨o, ho⟩ : ∃ o, ops[2]? = some o := ⟨_, Array.getElem?_eq_getElem (by omega)⟩
        obtain ⟨_, _, haf, _⟩ : o.dst = some 27 ∧ o.op = Op.move (Operand.tmp 5) ∧ o.after = #[] ∧ o.guard = none := by simpa [eq_comm] using hget 2 o ho
        refine key 2 o ho (by simp [hc]) ?_
        intro e hmem _
        rw [haf] at hmem
        simp at hmem
    have f4 : d4 = true := by
      cases hc : d4 with
      | true => rfl
      | false =>
        exfalso
        obtain ⟨o, ho⟩ : ∃ o, ops[4]? = some o := ⟨_, Array.getElem?_eq_getElem (by omega)⟩
        obtain ⟨_, _, haf, _⟩ : o.dst = some 29 ∧ o.op = Op.move (Operand.tmp 5) ∧ o.after = #[] ∧ o.guard = none := by simpa [eq_comm] using hget 4 o ho
        refine key 4 o ho (by simp [hc]) ?_
        intro e hmem _
        rw [haf] at hmem
        simp at hmem
    have f6 : d6 = true := by
      cases hc : d6 with
      | true => rfl
      | false =>
        exfalso
        obtain ⟨o, ho⟩ : ∃ o, ops[6]? = some o := ⟨_, Array.getElem?_eq_getElem (by omega)⟩
        obtain ⟨_, _, haf, _⟩ : o.dst = some 31 ∧ o.op = Op.move (Operand.tmp 5) ∧ o.after = #[] ∧ o.guard = none := by simpa [eq_comm] using hget 6 o ho
        refine key 6 o ho (by simp [hc]) ?_
        intro e hmem _
        rw [haf] at hmem
        simp at hmem
    have f8 : d8 = true := by
      cases hc : d8 with
      | true => rfl
      | false =>
        exfalso
        obtain ⟨o, ho⟩ : ∃ o, ops[8]? = some o := ⟨_, Array.getElem?_eq_getElem (by omega)⟩
        obtain ⟨_, _, haf, _⟩ : o.dst = some 33 ∧ o.op = Op.move (Operand.tmp 5) ∧ o.after = #[] ∧ o.guard = none := by simpa [eq_comm] using hget 8 o ho
        refine key 8 o ho (by simp [hc]) ?_
        intro e hmem _
        rw [haf] at hmem
        simp at hmem
    have f11 : d11 = true := by
      cases hc : d11 with
      | true => rfl
      | false =>
        exfalso
        obtain ⟨o, ho⟩ : ∃ o, ops[11]? = some o := ⟨_, Array.getElem?_eq_getElem (by omega)⟩
        obtain ⟨_, _, haf, _⟩ : o.dst = some 7 ∧ o.op = Op.alloc 33 ∧ o.after = #[] ∧ o.guard = none := by simpa [eq_comm] using hget 11 o ho
        refine key 11 o ho (by simp [hc]) ?_
        intro e hmem _
        rw [haf] at hmem
        simp at hmem
    have f1 : d1 = true := by
      cases hc : d1 with
      | true => rfl
      | false =>
        exfalso
        obtain ⟨o, ho⟩ : ∃ o, ops[1]? = some o := ⟨_, Array.getElem?_eq_getElem (by omega)⟩
        obtain ⟨_, _, haf, _⟩ : o.dst = some 26 ∧ o.op = Op.convert 3 22 (Operand.tmp 25) ∧ o.after = #[{ on := 0, ground := Ground.data }] ∧ o.guard = none := by simpa [eq_comm] using hget 1 o ho
        refine key 1 o ho (by simp [hc]) ?_
        intro e hmem _
        rw [haf] at hmem
        simp at hmem
        rcases hmem with rfl <;> simp [f0]
    have f3 : d3 = true := by
      cases hc : d3 with
      | true => rfl
      | false =>
        exfalso
        obtain ⟨o, ho⟩ : ∃ o, ops[3]? = some o := ⟨_, Array.getElem?_eq_getElem (by omega)⟩
        obtain ⟨_, _, haf, _⟩ : o.dst = some 28 ∧ o.op = Op.makeSlice 27 (Operand.tmp 27) (Operand.tmp 27) ∧ o.after = #[{ on := 2, ground := Ground.data }, { on := 2, ground := Ground.data }] ∧ o.guard = none := by simpa [eq_comm] using hget 3 o ho
        refine key 3 o ho (by simp [hc]) ?_
        intro e hmem _
        rw [haf] at hmem
        simp at hmem
        rcases hmem with rfl <;> simp [f2]
    have f5 : d5 = true := by
      cases hc : d5 with
      | true => rfl
      | false =>
        exfalso
        obtain ⟨o, ho⟩ : ∃ o, ops[5]? = some o := ⟨_, Array.getElem?_eq_getElem (by omega)⟩
        obtain ⟨_, _, haf, _⟩ : o.dst = some 30 ∧ o.op = Op.makeSlice 28 (Operand.tmp 29) (Operand.tmp 29) ∧ o.after = #[{ on := 4, ground := Ground.data }, { on := 4, ground := Ground.data }] ∧ o.guard = none := by simpa [eq_comm] using hget 5 o ho
        refine key 5 o ho (by simp [hc]) ?_
        intro e hmem _
        rw [haf] at hmem
        simp at hmem
        rcases hmem with rfl <;> simp [f4]
    have f7 : d7 = true := by
      cases hc : d7 with
      | true => rfl
      | false =>
        exfalso
        obtain ⟨o, ho⟩ : ∃ o, ops[7]? = some o := ⟨_, Array.getElem?_eq_getElem (by omega)⟩
        obtain ⟨_, _, haf, _⟩ : o.dst = some 32 ∧ o.op = Op.makeSlice 29 (Operand.tmp 31) (Operand.tmp 31) ∧ o.after = #[{ on := 6, ground := Ground.data }, { on := 6, ground := Ground.data }] ∧ o.guard = none := by simpa [eq_comm] using hget 7 o ho
        refine key 7 o ho (by simp [hc]) ?_
        intro e hmem _
        rw [haf] at hmem
        simp at hmem
        rcases hmem with rfl <;> simp [f6]
    have f9 : d9 = true := by
      cases hc : d9 with
      | true => rfl
      | false =>
        exfalso
        obtain ⟨o, ho⟩ : ∃ o, ops[9]? = some o := ⟨_, Array.getElem?_eq_getElem (by omega)⟩
        obtain ⟨_, _, haf, _⟩ : o.dst = some 34 ∧ o.op = Op.makeSlice 31 (Operand.tmp 33) (Operand.tmp 33) ∧ o.after = #[{ on := 8, ground := Ground.data }, { on := 8, ground := Ground.data }] ∧ o.guard = none := by simpa [eq_comm] using hget 9 o ho
        refine key 9 o ho (by simp [hc]) ?_
        intro e hmem _
        rw [haf] at hmem
        simp at hmem
        rcases hmem with rfl <;> simp [f8]
    have f10 : d10 = true := by
      cases hc : d10 with
      | true => rfl
      | false =>
        exfalso
        obtain ⟨o, ho⟩ : ∃ o, ops[10]? = some o := ⟨_, Array.getElem?_eq_getElem (by omega)⟩
        obtain ⟨_, _, haf, _⟩ : o.dst = some 35 ∧ o.op = Op.build 33 #[(0, Operand.tmp 26), (3, Operand.tmp 28), (4, Operand.tmp 30), (5, Operand.tmp 32), (10, Operand.tmp 34)] ∧ o.after = #[{ on := 1, ground := Ground.data }, { on := 3, ground := Ground.data }, { on := 5, ground := Ground.data }, { on := 7, ground := Ground.data }, { on := 9, ground := Ground.data }] ∧ o.guard = none := by simpa [eq_comm] using hget 10 o ho
        refine key 10 o ho (by simp [hc]) ?_
        intro e hmem _
        rw [haf] at hmem
        simp at hmem
        rcases hmem with rfl | rfl | rfl | rfl | rfl <;> simp [f1, f3, f5, f7, f9]
    have f12 : d12 = true := by
      cases hc : d12 with
      | true => rfl
      | false =>
        exfalso
        obtain ⟨o, ho⟩ : ∃ o, ops[12]? = some o := ⟨_, Array.getElem?_eq_getElem (by omega)⟩
        obtain ⟨_, _, haf, _⟩ : o.dst = none ∧ o.op = Op.store 33 (Operand.tmp 7) (Operand.tmp 35) ∧ o.after = #[{ on := 11, ground := Ground.data }, { on := 10, ground := Ground.data }, { on := 0, ground := Ground.phase }, { on := 1, ground := Ground.phase }, { on := 2, ground := Ground.phase }, { on := 3, ground := Ground.phase }, { on := 4, ground := Ground.phase }, { on := 5, ground := Ground.phase }, { on := 6, ground := Ground.phase }, { on := 7, ground := Ground.phase }, { on := 8, ground := Ground.phase }, { on := 9, ground := Ground.phase }, { on := 10, ground := Ground.phase }, { on := 11, ground := Ground.phase }] ∧ o.guard = none := by simpa [eq_comm] using hget 12 o ho
        refine key 12 o ho (by simp [hc]) ?_
        intro e hmem _
        rw [haf] at hmem
        simp at hmem
        rcases hmem with rfl | rfl | rfl | rfl | rfl | rfl | rfl | rfl | rfl | rfl | rfl | rfl | rfl | rfl <;> simp [f0, f1, f2, f3, f4, f5, f6, f7, f8, f9, f10, f11]
    subst f0 f1 f2 f3 f4 f5 f6 f7 f8 f9 f10 f11 f12
    exact h _ _ _ _ _ _ _ _ _ _ _ _ _ _ _ _ _ _ R
  · refine ⟨false, false, false, false, false, false, false, false, false, false, false, false, false, _, _, _, _, _, _, _, _, _, _, _, _, 0, 0, 0, 0, 0, by rw [hsize]; rfl, rfl, ?_⟩
    exact { below := (Below.refl _ _).drew, h0 := (fun h => by cases h), h1 := (fun h => by cases h), h2 := (fun h => by cases h), h4 := (fun h => by cases h), h6 := (fun h => by cases h), h8 := (fun h => by cases h), h3 := (fun h => by cases h), h5 := (fun h => by cases h), h7 := (fun h => by cases h), h9 := (fun h => by cases h), h10 := (fun h => by cases h), h11 := (fun h => by cases h), h12 := (fun h => by cases h) }

end Go.Proofs.YbulkajrsDoor
