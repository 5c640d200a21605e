import Derived.Test.YbulkajrsDoorUnlink
import Derived.Great.Ranges
namespace Go.Proofs.YbulkajrsDoor
open Go.RowKit
set_option linter.unusedVariables false

/-! ### '&entry{due: d}' -/
def entCells (d : Int) : Array Value := #[.pointer none, .nilFunc, .int .u64 d, .pointer none, .pointer none, .int .u64 0, .int .u64 0, .int .u64 0]
theorem Ybad.build51 (d : Int) (w : World) : (Instr.build 51 #[(2, .int .u64 d)]).run Ybad.prog w = .ok (.agg (entCells d)) w := run_build w 51 _ _ (by kernel_rfl)
theorem Ybad.info45 : (Ybad.prog.info? 45).map (fun i => (i.zero, i.size, i.bytes)) = some (some (.pointer none), 1, 8) := by kernel_rfl
theorem Ybad.under44 : Ybad.prog.underlying 44 = some (.slice 45) := by kernel_rfl

def dueOf (DS : Nat → Nat) (j : Nat) : Nat := if DS j = 0 then 1 else DS j

structure Crt (w wr : World) (BE n i last : Nat) (DD : Nat → Nat) : Prop where
  size : wr.heap.size = BE + 1 + i
  row : wr.rowIs BE 45 n (fun j => if j < i then .pointer (some ⟨BE + 1 + j, 0, none⟩) else .pointer none)
  ent : ∀ j, j < i → wr.heap[BE + 1 + j]? = some (.cells (entCells (DD j)) 51 (0, 0))
  bel : Below BE w wr
  l1 : 1 ≤ last
  l2 : last < 18446744073709551616
  l3 : ∀ j, j < i → DD j ≤ last

theorem Crt.start (w : World) (n : Nat) (DD : Nat → Nat) : Crt w (w.alloc (.cells (madeCells #[.pointer none] n) 45)) w.heap.size n 0 1 DD :=
  ⟨by simp, (World.rowIs_made w (.pointer none) n 45).congr (fun j hj => by simp), fun j hj => by omega, (Below.refl _ _).alloc (Nat.le_refl _) _, by omega, by omega, fun j hj => by omega⟩

theorem Crt.step {w wr : World} {BE n i last : Nat} {DD : Nat → Nat} (h : Crt w wr BE n i last DD) (hi : i < n) (last' : Nat) (h1 : last ≤ last') (h2 : DD i ≤ last') (h3 : last' < 18446744073709551616) :
    Crt w ((wr.setCell ⟨BE, i, none⟩ (.pointer (some ⟨BE + 1 + i, 0, none⟩))).alloc (.cells (entCells (DD i)) 51)) BE n (i + 1) last' DD := by
  have sz : (wr.setCell ⟨BE, i, none⟩ (.pointer (some ⟨BE + 1 + i, 0, none⟩))).heap.size = BE + 1 + i := by simp [World.setCell, h.size]
  refine ⟨by rw [World.size_alloc, sz]; omega, ?_, ?_, ?_, by have := h.l1; omega, h3, ?_⟩
  · refine ((h.row.set i _).alloc _).congr (fun j hj => ?_)
    by_cases e : j = i
    · subst e; rw [if_pos rfl, if_pos (by omega)]
    · rw [if_neg e]
      by_cases c : j < i
      · rw [if_pos c, if_pos (by omega)]
      · rw [if_neg c, if_neg (by omega)]
  · intro j hj
    by_cases e : j = i
    · subst e
      have := heap_alloc_new (wr.setCell ⟨BE, j, none⟩ (.pointer (some ⟨BE + 1 + j, 0, none⟩))) (.cells (entCells (DD j)) 51)
      rw [sz] at this
      exact this
    · rw [Below.heap_alloc _ _ _ (by rw [sz]; omega), heap_setCell_other _ _ _ _ (by show BE + 1 + j ≠ BE; omega)]
      exact h.ent j (by omega)
  · exact (h.bel.setCell (p := ⟨BE, i, none⟩) (Nat.le_refl _) _).alloc (by rw [sz]; omega) _
  · intro j hj
    by_cases e : j = i
    · subst e; exact h2
    · exact Nat.le_trans (h.l3 j (by omega)) h1

theorem lev_ex (N : Nat) (hN : 2 ≤ N) (d : Nat) (h1 : 1 ≤ d) : ∀ n, d < N ^ n → ∃ l, l < n ∧ IsLev N d l
  | 0, h => by simp at h; omega
  | n + 1, h => by
    by_cases c : d < N ^ n
    · obtain ⟨l, g1, g2⟩ := lev_ex N hN d h1 n c
      exact ⟨l, by omega, g2⟩
    · exact ⟨n, by omega, by omega, h⟩

/-- Where a slot starts tells which it is. -/
theorem start_iff {N d d' l l' : Nat} (hN : 2 ≤ N) (h : IsLev N d l) (h' : IsLev N d' l') : d / N ^ l * N ^ l = d' / N ^ l' * N ^ l' ↔ l = l' ∧ d / N ^ l = d' / N ^ l' := by
  have key : ∀ {d l : Nat}, IsLev N d l → IsLev N (d / N ^ l * N ^ l) l := fun {d l} h => by
    obtain ⟨g1, g2⟩ := h.digit hN
    refine ⟨?_, Nat.lt_of_le_of_lt (Nat.div_mul_le_self _ _) h.2⟩
    calc N ^ l = 1 * N ^ l := (Nat.one_mul _).symm
      _ ≤ d / N ^ l * N ^ l := Nat.mul_le_mul_right _ g1
  constructor
  · intro e
    have k1 := key h
    rw [e] at k1
    have el := IsLev.unique hN k1 (key h')
    subst el
    exact ⟨rfl, Nat.eq_of_mul_eq_mul_right (Nat.pow_pos (by omega)) e⟩
  · rintro ⟨rfl, e⟩; rw [e]

theorem Wh.cv {w : World} {B L N n : Nat} {c : Int} {D : Nat → Nat} {E V V' : Nat → Prop} (h : Wh w B L N n c D E V) (hv : ∀ x, V x ↔ V' x) : Wh w B L N n c D E V' := by
  have : V = V' := funext fun x => propext (hv x)
  subst this; exact h
theorem Shares.cv {N : Nat} {D : Nat → Nat} {V V' : Nat → Prop} {l t : Nat} (hv : ∀ x, V x ↔ V' x) : Shares N D V l t ↔ Shares N D V' l t := by
  have : V = V' := funext fun x => propext (hv x)
  subst this; rfl

def entD (DD : Nat → Nat) (BE e : Nat) : Nat := DD (e - (BE + 1))
def entE (BE n e : Nat) : Prop := BE + 1 ≤ e ∧ e < BE + 1 + n
theorem entD_at (DD : Nat → Nat) (BE j : Nat) : entD DD BE (BE + 1 + j) = DD j := by unfold entD; congr 1; omega

theorem wh_start {w w0 wr w1 W : World} {BE n last L N n' bl bh bf ba B : Nat} {DD : Nat → Nat} (hC : Crt w0 wr BE n n last DD) (hB : B ≤ BE) (hb0 : Below B w w0) (hn : n' ≤ 64)
    (r73 : w1.rowIs bl 73 n' (fun _ => .slice none 0 0)) (r34 : w1.rowIs bh 34 n' (fun _ => .slice none 0 0)) (r3 : w1.rowIs bf 3 n' (fun _ => .int .i64 0)) (r74 : w1.rowIs ba 74 n' (fun _ => .pointer none))
    (gl : wr.heap.size ≤ bl) (gh : wr.heap.size ≤ bh) (gf : wr.heap.size ≤ bf) (ga : wr.heap.size ≤ ba) (hb1 : Below wr.heap.size wr w1)
    (hL : w1.heap.size = L) (hLv : LvIs W L (lvN N n' bl bh bf ba)) (hb2 : Below L w1 W) :
    Wh W B L N n' 0 (entD DD BE) (entE BE n) (fun x => entE BE n x ∧ x < BE + 1 + 0) ∧ Below B w W ∧ W.rowIs BE 45 n (fun j => .pointer (some ⟨BE + 1 + j, 0, none⟩)) := by
  have hsz := hC.size
  have s1 := hb1.size
  have k12 : ∀ k, k < w1.heap.size → W.heap[k]? = w1.heap[k]? := fun k hk => hb2.block k (by omega)
  have kr : ∀ k, k < wr.heap.size → W.heap[k]? = wr.heap[k]? := fun k hk => (k12 k (by omega)).trans (hb1.block k hk)
  have hent : ∀ j, j < n → W.heap[BE + 1 + j]? = some (.cells (entCells (DD j)) 51 (0, 0)) := fun j hj => (kr _ (by omega)).trans (hC.ent j hj)
  have hcell : ∀ j i, j < n → W.cell? ⟨BE + 1 + j, i, none⟩ = (entCells (DD j))[i]? := fun j i hj => cell_of_row _ _ _ _ _ _ (hent j hj)
  have hx : ∀ e, entE BE n e → ∃ j, j < n ∧ e = BE + 1 + j := fun e he => ⟨e - (BE + 1), by have := he.1; have := he.2; omega, by have := he.1; omega⟩
  have R : ∀ {k t z : Nat} {f : Nat → Value}, w1.rowIs k t z f → W.rowIs k t z f := fun h => h.of_block (k12 _ h.lt)
  refine ⟨⟨lvN N n' bl bh bf ba, fun _ => none, fun _ => none, fun _ => 0, fun _ _ => [], rfl, rfl, ?_, ?_⟩, ?_, ?_⟩
  · refine { lv := hLv, e0 := rfl, e1 := rfl, e2 := rfl, e3 := rfl, e4 := rfl, n64 := hn, lrow := R r73, hrow := R r34, same := fun _ _ => Iff.rfl, words := fun l b _ h => (by cases h), inj := fun l l' b _ _ h => (by cases h), frow := ?_, arow := R r74, bit := fun l t _ _ h => absurd rfl h, off := fun _ _ _ _ => rfl, lt := fun _ => by omega, busy := ?_, blt := ?_, bL := by omega, bbl := ?_, bbh := ?_, bbf := ?_, bba := ?_ }
    · refine (R r3).congr (fun l hl => ?_)
      rw [(cnt_zero (f := hsOf (fun _ _ => []) l) N).2 (fun t _ => rfl)]; rfl
    · intro l hl
      rw [(cnt_zero (f := hsOf (fun _ _ => []) l) N).2 (fun t _ => rfl)]
      show (0 : Nat).testBit l = true ↔ _
      simp
    · show (0 : Nat) < _; omega
    · show B ≤ bl; omega
    · show B ≤ bh; omega
    · show B ≤ bf; omega
    · show B ≤ ba; omega
  · refine { slot := fun l b _ h => (by cases h), linj := fun l l' b _ _ h => (by cases h), ok := fun l b t _ h => (by cases h), nil := fun _ _ _ _ => rfl, ent := ?_, ev := fun x h => h.1, mem := ?_, nd := fun _ _ => List.nodup_nil, free := ?_ }
    · intro e he
      obtain ⟨j, hj, rfl⟩ := hx e he
      refine ⟨⟨_, hent j hj, rfl⟩, ?_, ⟨none, ?_⟩, ⟨none, ?_⟩, by omega⟩
      · rw [hcell j 2 hj, entD_at]; rfl
      · exact hcell j 3 hj
      · exact hcell j 4 hj
    · intro l t e
      constructor
      · intro h; simp at h
      · rintro ⟨h, _⟩; have := h.1.1; have := h.2; omega
    · intro e he _
      obtain ⟨j, hj, rfl⟩ := hx e he
      exact ⟨ptr_of (hcell j 3 hj), ptr_of (hcell j 4 hj)⟩
  · exact ((hb0.trans (hC.bel.mono hB)).trans (hb1.mono (by omega))).trans (hb2.mono (by omega))
  · exact (hC.row.of_block (kr _ (by omega))).congr (fun j hj => by rw [if_pos hj])
end Go.Proofs.YbulkajrsDoor
