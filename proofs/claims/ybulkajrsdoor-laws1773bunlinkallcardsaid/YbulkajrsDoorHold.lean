import Derived.Test.YbulkajrsDoorBase
namespace Go.Proofs.YbulkajrsDoor
open Go.RowKit
set_option linter.unusedVariables false

set_option maxHeartbeats 400000 in
theorem hold_keep (L bh hb n nw l s x : Nat) (w : World) (hl : l < n) (hn : n ≤ 64) (hs : s / 64 < nw) (hnw : nw ≤ 2) (hs2 : s < 18446744073709551616)
    (c1 : w.cell? ⟨L, 67, none⟩ = some (.slice (some ⟨bh, 0, none⟩) n n)) (c2 : w.cell? ⟨bh, l, none⟩ = some (.slice (some ⟨hb, 0, none⟩) nw nw))
    (c3 : w.cell? ⟨hb, s / 64, none⟩ = some (.int .u64 x)) (ht : (bits .and .u64 (x : Int) (IntKind.u64.wrap (2 ^ (s % 64))) == 0) = false) :
    Calls Ybad.prog 17 #[.pointer (some ⟨L, 0, none⟩), .int .i64 l, .int .u64 s, .bool true] w fun e w' => e = .returned (.tuple #[]) ∧ w' = w := by
  go_enter Ybad.func17, Ybad.ntmps17
  go_wp2
  go_end0
  exact ⟨rfl, rfl⟩

set_option maxHeartbeats 400000 in
theorem hold_set (L bh bf hb n nw l s x busy : Nat) (F : Int) (w : World) (hl : l < n) (hn : n ≤ 64) (hs : s / 64 < nw) (hnw : nw ≤ 2) (hs2 : s < 18446744073709551616)
    (c1 : w.cell? ⟨L, 67, none⟩ = some (.slice (some ⟨bh, 0, none⟩) n n)) (c2 : w.cell? ⟨bh, l, none⟩ = some (.slice (some ⟨hb, 0, none⟩) nw nw))
    (c3 : w.cell? ⟨hb, s / 64, none⟩ = some (.int .u64 x)) (f3 : w.frozen? ⟨hb, s / 64, none⟩ = false) (c4 : w.cell? ⟨L, 68, none⟩ = some (.slice (some ⟨bf, 0, none⟩) n n))
    (c5 : w.cell? ⟨bf, l, none⟩ = some (.int .i64 F)) (f5 : w.frozen? ⟨bf, l, none⟩ = false) (c6 : w.cell? ⟨L, 69, none⟩ = some (.int .u64 busy)) (f6 : w.frozen? ⟨L, 69, none⟩ = false)
    (n1 : ¬ hb = L) (n2 : ¬ hb = bf) (n3 : ¬ bf = L)
    (ht : (bits .and .u64 (x : Int) (IntKind.u64.wrap (2 ^ (s % 64))) == 0) = true) :
    Calls Ybad.prog 17 #[.pointer (some ⟨L, 0, none⟩), .int .i64 l, .int .u64 s, .bool true] w fun e w' => e = .returned (.tuple #[]) ∧
      w' = (((w.setCell ⟨hb, s / 64, none⟩ (.int .u64 (bits .or .u64 (x : Int) (IntKind.u64.wrap (2 ^ (s % 64)))))).setCell ⟨bf, l, none⟩ (.int .i64 (wrap64 (F + 1)))).setCell ⟨L, 69, none⟩ (.int .u64 (bits .or .u64 (busy : Int) (IntKind.u64.wrap (2 ^ l))))).drew := by
  go_enter Ybad.func17, Ybad.ntmps17
  go_wp2
  go_region
  all_goals go_wp2
  all_goals go_end0
  all_goals exact ⟨rfl, rfl⟩

set_option maxHeartbeats 400000 in
theorem hold_drop (L bh bf hb n nw l s x busy : Nat) (F : Int) (w : World) (hl : l < n) (hn : n ≤ 64) (hs : s / 64 < nw) (hnw : nw ≤ 2) (hs2 : s < 18446744073709551616)
    (c1 : w.cell? ⟨L, 67, none⟩ = some (.slice (some ⟨bh, 0, none⟩) n n)) (c2 : w.cell? ⟨bh, l, none⟩ = some (.slice (some ⟨hb, 0, none⟩) nw nw))
    (c3 : w.cell? ⟨hb, s / 64, none⟩ = some (.int .u64 x)) (f3 : w.frozen? ⟨hb, s / 64, none⟩ = false) (c4 : w.cell? ⟨L, 68, none⟩ = some (.slice (some ⟨bf, 0, none⟩) n n))
    (c5 : w.cell? ⟨bf, l, none⟩ = some (.int .i64 F)) (f5 : w.frozen? ⟨bf, l, none⟩ = false) (c6 : w.cell? ⟨L, 69, none⟩ = some (.int .u64 busy)) (f6 : w.frozen? ⟨L, 69, none⟩ = false)
    (n1 : ¬ hb = L) (n2 : ¬ hb = bf) (n3 : ¬ bf = L) (hF : 2 ≤ F) (hF2 : F ≤ 1000)
    (ht : (bits .and .u64 (x : Int) (IntKind.u64.wrap (2 ^ (s % 64))) != 0) = true) :
    Calls Ybad.prog 17 #[.pointer (some ⟨L, 0, none⟩), .int .i64 l, .int .u64 s, .bool false] w fun e w' => e = .returned (.tuple #[]) ∧
      w' = ((w.setCell ⟨hb, s / 64, none⟩ (.int .u64 (bits .andNot .u64 (x : Int) (IntKind.u64.wrap (2 ^ (s % 64)))))).setCell ⟨bf, l, none⟩ (.int .i64 (F - 1))) := by
  have ht2 : (F - 1 == 0) = false := beq_eq_false_iff_ne.2 (by omega)
  go_enter Ybad.func17, Ybad.ntmps17
  go_wp2
  all_goals go_end0
  all_goals exact ⟨rfl, rfl⟩

set_option maxHeartbeats 400000 in
theorem hold_last (L bh bf hb n nw l s x busy : Nat) (w : World) (hl : l < n) (hn : n ≤ 64) (hs : s / 64 < nw) (hnw : nw ≤ 2) (hs2 : s < 18446744073709551616)
    (c1 : w.cell? ⟨L, 67, none⟩ = some (.slice (some ⟨bh, 0, none⟩) n n)) (c2 : w.cell? ⟨bh, l, none⟩ = some (.slice (some ⟨hb, 0, none⟩) nw nw))
    (c3 : w.cell? ⟨hb, s / 64, none⟩ = some (.int .u64 x)) (f3 : w.frozen? ⟨hb, s / 64, none⟩ = false) (c4 : w.cell? ⟨L, 68, none⟩ = some (.slice (some ⟨bf, 0, none⟩) n n))
    (c5 : w.cell? ⟨bf, l, none⟩ = some (.int .i64 1)) (f5 : w.frozen? ⟨bf, l, none⟩ = false) (c6 : w.cell? ⟨L, 69, none⟩ = some (.int .u64 busy)) (f6 : w.frozen? ⟨L, 69, none⟩ = false)
    (n1 : ¬ hb = L) (n2 : ¬ hb = bf) (n3 : ¬ bf = L)
    (ht : (bits .and .u64 (x : Int) (IntKind.u64.wrap (2 ^ (s % 64))) != 0) = true) :
    Calls Ybad.prog 17 #[.pointer (some ⟨L, 0, none⟩), .int .i64 l, .int .u64 s, .bool false] w fun e w' => e = .returned (.tuple #[]) ∧
      w' = (((w.setCell ⟨hb, s / 64, none⟩ (.int .u64 (bits .andNot .u64 (x : Int) (IntKind.u64.wrap (2 ^ (s % 64)))))).setCell ⟨bf, l, none⟩ (.int .i64 0)).setCell ⟨L, 69, none⟩ (.int .u64 (bits .andNot .u64 (busy : Int) (IntKind.u64.wrap (2 ^ l))))).drew := by
  go_enter Ybad.func17, Ybad.ntmps17
  go_wp2
  go_region
  all_goals go_wp2
  all_goals go_end0
  all_goals exact ⟨rfl, rfl⟩
end Go.Proofs.YbulkajrsDoor
