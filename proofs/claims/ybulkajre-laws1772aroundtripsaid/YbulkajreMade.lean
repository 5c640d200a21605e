import Derived.Test.YbulkajreBits
import Derived.ProofKit
import Derived.OpenShut
import Derived.Deep.OwnRows
import Derived.Laws.CopyOwn
namespace Go.Proofs.Ybulkajre
open Go.RowKit

theorem Yba.info23 : (Yba.prog.info? 23).map (fun i => (i.zero, i.size, i.bytes)) = some (some (.int .u64 0), 1, 8) := by kernel_rfl

theorem lt_of_cell? {w : World} {a : Addr} {v : Value} (h : w.cell? a = some v) : a.block < w.heap.size := by
  apply Nat.lt_of_not_le; intro hle
  have hn : w.heap[a.block]? = none := Array.getElem?_eq_none hle
  simp [World.cell?, hn] at h

theorem copied (b off len cap : Nat) (f : Nat → Nat) (w : World) (hb : b < w.heap.size)
    (hc : ∀ j, j < len → w.cell? ⟨b, off + j, none⟩ = some (.int .u64 (f j))) :
    ∃ W1 : World, (∀ ty, (Builtin.copy_ #[24, 22] ty #[.slice (some ⟨w.heap.size, 0, none⟩) len len, .slice (some ⟨b, off, none⟩) len cap]).run Yba.prog (w.alloc (.cells (madeCells #[.int .u64 0] len) 23)) = .ok (.int .i64 len) W1) ∧
      Arr w.heap.size len W1 f ∧ Below w.heap.size w W1 := by
  have hrow := World.rowIs_made w (.int .u64 0) len 23
  obtain ⟨c, hg, hsz, _⟩ := hrow
  obtain ⟨cs, hcs⟩ : ∃ cs : List Value, cs = (List.range len).map (fun j => Value.int .u64 (f j)) := ⟨_, rfl⟩
  have hlen : cs.length = len := by rw [hcs]; simp
  have hget : ∀ j, j < len → cs[j]? = some (.int .u64 (f j)) := fun j hj => by rw [hcs]; simp [hj]
  have hsrc : ∀ j v, cs[j]? = some v → (w.alloc (.cells (madeCells #[.int .u64 0] len) 23)).cell? ((⟨b, off, none⟩ : Addr).add j) = some v := by
    intro j v hv
    have hj : j < len := by
      apply Nat.lt_of_not_le; intro hle
      rw [List.getElem?_eq_none (by omega)] at hv; cases hv
    rw [hget j hj] at hv
    cases hv
    rw [WideShapes.add_plain, World.cell?_alloc_past _ _ _ hb]
    exact hc j hj
  have hrun := fun ty => run_copy_row (P := Yba.prog) (w.alloc (.cells (madeCells #[.int .u64 0] len) 23)) 24 22 ty 23 w.heap.size 0 len len ⟨b, off, none⟩ len cap c 23 cs Yba.underlying24 (by kernel_rfl) hg (by simp [hlen]) hsrc (by omega)
    (by intro v hv; rw [hcs] at hv; simp at hv; obtain ⟨j, _, rfl⟩ := hv; rfl)
  rw [hlen] at hrun
  refine ⟨_, fun ty => hrun ty, ?_, ?_⟩
  · intro j hj
    have hh := setRow_heap _ w.heap.size c ((c.toList.take 0 ++ cs ++ c.toList.drop (0 + len)).toArray) 23 (0, 0) hg
    have hr : World.rowIs (World.setRow (w.alloc (.cells (madeCells #[.int .u64 0] len) 23)) w.heap.size ((c.toList.take 0 ++ cs ++ c.toList.drop (0 + len)).toArray)) w.heap.size 23 len (fun j => .int .u64 (f j)) := by
      refine ⟨_, hh, ?_, ?_⟩
      · simp [hlen]; omega
      · intro i hi
        rw [List.getElem?_toArray, List.take_zero, List.nil_append, List.getElem?_append_left (by omega)]
        exact hget i hi
    exact ⟨hr.cell hj, hr.frozen j⟩
  · exact below_setRow ((Below.refl _ _).alloc (Nat.le_refl _) _) (Nat.le_refl _) _

end Go.Proofs.Ybulkajre
