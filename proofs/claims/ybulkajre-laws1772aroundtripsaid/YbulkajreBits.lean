import Derived.Test.YbulkajreRows
import Derived.Test.YbulkajrePlain
import Derived.WalkKit
import Derived.Deep.QuietTactic
import Derived.BigQuiet
import Derived.Laws.LoneSync
import Derived.LoopN
import Derived.WalkSmall
namespace Go.Proofs.Ybulkajre
open Go.RowKit

theorem low_top (sh : Nat) (h : sh ≤ 6) (h1 : 64 ≤ IntKind.u64.wrap (2 ^ sh)) : (18446744073709551615 : Int) = (lowN sh : Nat) := by
  revert h1
  refine seven (P := fun sh => 64 ≤ IntKind.u64.wrap (2 ^ sh) → (18446744073709551615 : Int) = (lowN sh : Nat)) ?_ ?_ ?_ ?_ ?_ ?_ ?_ sh h <;> decide
theorem low_rest (sh : Nat) (h : sh ≤ 6) (h1 : IntKind.u64.wrap (2 ^ sh) < 64) :
    IntKind.u64.wrap (IntKind.u64.wrap (2 ^ min (IntKind.u64.wrap (2 ^ sh)).toNat 64) - 1) = (lowN sh : Nat) := by
  revert h1
  refine seven (P := fun sh => IntKind.u64.wrap (2 ^ sh) < 64 → IntKind.u64.wrap (IntKind.u64.wrap (2 ^ min (IntKind.u64.wrap (2 ^ sh)).toNat 64) - 1) = (lowN sh : Nat)) ?_ ?_ ?_ ?_ ?_ ?_ ?_ sh h <;> decide
theorem low_mask (sh : Nat) (h : sh ≤ 6) :
    IntKind.u64.wrap (IntKind.u64.wrap (2 * 2 ^ min (IntKind.u64.wrap (IntKind.u64.wrap (2 ^ sh) - 1)).toNat 64) - 1) = (lowN sh : Nat) := by
  refine seven (P := fun sh => IntKind.u64.wrap (IntKind.u64.wrap (2 * 2 ^ min (IntKind.u64.wrap (IntKind.u64.wrap (2 ^ sh) - 1)).toNat 64) - 1) = (lowN sh : Nat)) ?_ ?_ ?_ ?_ ?_ ?_ ?_ sh h <;> decide
theorem wrap_nat (n : Nat) : IntKind.u64.wrap (n : Int) = ((n % 18446744073709551616 : Nat) : Int) := by rw [IntKind.wrap_u64]; omega

theorem ret_int {k : IntKind} {a b : Int} (h : a = b) : Ending.returned (.int k a) = .returned (.int k b) := by rw [h]

theorem low_any (sh : Nat) (h : sh ≤ 6) (w : World) : Calls Yba.prog 5 #[.int .u64 sh] w fun e w' => e = .returned (.int .u64 (lowN sh)) ∧ w' = w := by
  go_enter Yba.func5, Yba.ntmps5
  go_wp2
  · go_ret
    exact ⟨ret_int (low_top sh h (by assumption)), rfl⟩
  · go_ret
    exact ⟨ret_int (low_rest sh h (by assumption)), rfl⟩

theorem mask_any (sh b : Nat) (h : sh ≤ 6) (hb : b < 64) (w : World) : Calls Yba.prog 7 #[.int .u64 b, .int .u64 sh] w fun e w' => e = .returned (.int .u64 (maskN sh b)) ∧ w' = w := by
  go_enter Yba.func7, Yba.ntmps7
  go_wp2
  go_ret
  refine ⟨ret_int ?_, rfl⟩
  rw [low_mask sh h]
  have e : ((lowN sh : Nat) : Int) * 2 ^ b = ((lowN sh * 2 ^ b : Nat) : Int) := by simp
  rw [e, wrap_nat]; rfl

theorem load_run {a : Addr} {x : Nat} {w : World} (hc : w.cell? a = some (.int .u64 x)) (n : Nat) :
    (callFunc 10 #[.pointer (some a)]).run Yba.prog (w.drewN n) = .ok (.value (.int .u64 x)) (w.drewN n) :=
  run_call_load (P := Yba.prog) Yba.func10 (by kernel_rfl) (by kernel_rfl) (by kernel_rfl) .u64 (by kernel_rfl) (w := w.drewN n) (by rw [World.cell?_drewN]; exact hc)
theorem load_run0 {a : Addr} {x : Nat} {w : World} (hc : w.cell? a = some (.int .u64 x)) :
    (callFunc 10 #[.pointer (some a)]).run Yba.prog w = .ok (.value (.int .u64 x)) w :=
  run_call_load (P := Yba.prog) Yba.func10 (by kernel_rfl) (by kernel_rfl) (by kernel_rfl) .u64 (by kernel_rfl) hc
theorem cas_run {a : Addr} {x : Nat} {w : World} (hc : w.cell? a = some (.int .u64 x)) (hf : w.frozen? a = false) (n : Nat) (y : Int) :
    (callFunc 11 #[.pointer (some a), .int .u64 x, .int .u64 y]).run Yba.prog (w.drewN n) = .ok (.value (.bool true)) ((w.drewN n).setCell a (.int .u64 y)) :=
  run_call_cas_hit (P := Yba.prog) Yba.func11 (by kernel_rfl) (by kernel_rfl) (by kernel_rfl) .u64 (by kernel_rfl) (w := w.drewN n) (by rw [World.cell?_drewN]; exact hc) (by rw [World.frozen?_drewN]; exact hf)

/-! ### decrement, way by way -/
theorem dec_zero (g len cap i sh bit x : Nat) (w : World) (h : sh ≤ 6) (hbit : IntKind.u64.wrap ((i : Int) * 2 ^ sh) = bit) (hlen : bit / 64 < len) (_hl : len ≤ 1024)
    (hc : w.cell? ⟨g, bit / 64, none⟩ = some (.int .u64 x))
    (hz : (bits .and .u64 x (maskN sh (bit % 64)) == 0) = true) :
    Calls Yba.prog 6 #[.slice (some ⟨g, 0, none⟩) len cap, .int .u64 i, .int .u64 sh] w fun e w' => e = .returned (.tuple #[]) ∧ ∃ n, w' = w.drewN n := by
  have hm : bit % 64 < 64 := Nat.mod_lt _ (by omega)
  have hld := load_run hc
  go_enter Yba.func6, Yba.ntmps6
  go_wp2_with fail
  go_quiet ((go_at_call 7; exact Calls.quiet_of_same (mask_any sh (bit % 64) h hm _)))
  go_wp2_with fail
  refine wp_loop_rounds 1 ?_
  rw [rounds_succ]
  go_wp2
  refine bodyPost_ret (results_none rfl _ _ _) rfl ?_
  exact ⟨rfl, _, rfl⟩
theorem dec_full (g len cap i sh bit x : Nat) (w : World) (h : sh ≤ 6) (hbit : IntKind.u64.wrap ((i : Int) * 2 ^ sh) = bit) (hlen : bit / 64 < len) (_hl : len ≤ 1024)
    (hc : w.cell? ⟨g, bit / 64, none⟩ = some (.int .u64 x))
    (hz : (bits .and .u64 x (maskN sh (bit % 64)) == 0) = false) (hz' : (bits .and .u64 x (maskN sh (bit % 64)) == (maskN sh (bit % 64) : Int)) = true) :
    Calls Yba.prog 6 #[.slice (some ⟨g, 0, none⟩) len cap, .int .u64 i, .int .u64 sh] w fun e w' => e = .returned (.tuple #[]) ∧ ∃ n, w' = w.drewN n := by
  have hm : bit % 64 < 64 := Nat.mod_lt _ (by omega)
  have hld := load_run hc
  go_enter Yba.func6, Yba.ntmps6
  go_wp2_with fail
  go_quiet ((go_at_call 7; exact Calls.quiet_of_same (mask_any sh (bit % 64) h hm _)))
  go_wp2_with fail
  refine wp_loop_rounds 1 ?_
  rw [rounds_succ]
  go_wp2
  refine bodyPost_ret (results_none rfl _ _ _) rfl ?_
  exact ⟨rfl, _, rfl⟩
theorem dec_go (g len cap i sh bit x : Nat) (w : World) (h : sh ≤ 6) (hbit : IntKind.u64.wrap ((i : Int) * 2 ^ sh) = bit) (hlen : bit / 64 < len) (_hl : len ≤ 1024)
    (hc : w.cell? ⟨g, bit / 64, none⟩ = some (.int .u64 x)) (hf : w.frozen? ⟨g, bit / 64, none⟩ = false)
    (hz : (bits .and .u64 x (maskN sh (bit % 64)) == 0) = false) (hz' : (bits .and .u64 x (maskN sh (bit % 64)) == (maskN sh (bit % 64) : Int)) = false) :
    Calls Yba.prog 6 #[.slice (some ⟨g, 0, none⟩) len cap, .int .u64 i, .int .u64 sh] w fun e w' => e = .returned (.tuple #[]) ∧
      ∃ n, w' = (w.drewN n).setCell ⟨g, bit / 64, none⟩ (.int .u64 (IntKind.u64.wrap ((x : Int) - IntKind.u64.wrap (2 ^ (bit % 64))))) := by
  have hm : bit % 64 < 64 := Nat.mod_lt _ (by omega)
  have hld := load_run hc
  have hcas := cas_run hc hf
  go_enter Yba.func6, Yba.ntmps6
  go_wp2_with fail
  go_quiet ((go_at_call 7; exact Calls.quiet_of_same (mask_any sh (bit % 64) h hm _)))
  go_wp2_with fail
  refine wp_loop_rounds 1 ?_
  rw [rounds_succ]
  go_wp2
  refine bodyPost_ret (results_none rfl _ _ _) rfl ?_
  exact ⟨rfl, _, rfl⟩

/-! ### The array: block g holds the words f 0, f 1, .. -/
def Arr (g len : Nat) (w : World) (f : Nat → Nat) : Prop := ∀ j, j < len → w.cell? ⟨g, j, none⟩ = some (.int .u64 (f j)) ∧ w.frozen? ⟨g, j, none⟩ = false

theorem Arr.drewN {g len : Nat} {w : World} {f : Nat → Nat} (h : Arr g len w f) (n : Nat) : Arr g len (w.drewN n) f := fun j hj => by
  rw [World.cell?_drewN, World.frozen?_drewN]; exact h j hj
theorem Arr.set {g len : Nat} {w : World} {f : Nat → Nat} (h : Arr g len w f) {k y : Nat} (hk : k < len) : Arr g len (w.setCell ⟨g, k, none⟩ (.int .u64 y)) (fun j => if j = k then y else f j) := fun j hj => by
  refine ⟨?_, by rw [World.frozen?_setCell]; exact (h j hj).2⟩
  dsimp only
  by_cases e : j = k
  · subst e
    rw [if_pos rfl]
    exact World.cell?_setCell_same w _ _ (h j hj).1
  · rw [if_neg e, World.cell?_setCell_other _ _ _ _ (by simp)]
    exact (h j hj).1
theorem Arr.congr {g len : Nat} {w : World} {f f' : Nat → Nat} (h : Arr g len w f) (e : ∀ j, j < len → f j = f' j) : Arr g len w f' := fun j hj => by
  rw [← e j hj]; exact h j hj

theorem dec_any (g len cap i sh : Nat) (w : World) (f : Nat → Nat) (h : sh ≤ 6) (hl : len ≤ 1024) (hi : i * 2 ^ sh < len * 64) (hA : Arr g len w f) (hf : ∀ j, f j < 18446744073709551616) :
    Calls Yba.prog 6 #[.slice (some ⟨g, 0, none⟩) len cap, .int .u64 i, .int .u64 sh] w fun e w' => e = .returned (.tuple #[]) ∧
      Arr g len w' (fun j => if j = i * 2 ^ sh / 64 then decW sh (i * 2 ^ sh % 64) (f j) else f j) ∧ ∀ B, B ≤ g → Below B w w' := by
  have hd := dvd_off i sh h
  obtain ⟨bit, hb⟩ : ∃ bit, bit = i * 2 ^ sh := ⟨_, rfl⟩
  have hbit : IntKind.u64.wrap ((i : Int) * 2 ^ sh) = bit := by
    have e : (i : Int) * 2 ^ sh = ((i * 2 ^ sh : Nat) : Int) := by simp
    rw [e, wrap_nat, ← hb]; omega
  rw [← hb] at hi hd ⊢
  have hlen : bit / 64 < len := by omega
  have hm : bit % 64 < 64 := Nat.mod_lt _ (by omega)
  have hfit := fits sh (bit % 64) h hm hd
  obtain ⟨hc, hz⟩ := hA (bit / 64) hlen
  have hx := hf (bit / 64)
  have z1 := zero_iff sh (bit % 64) (f (bit / 64)) hx hfit
  have z2 := full_iff sh (bit % 64) (f (bit / 64)) hx hfit
  by_cases c0 : cellV sh (bit % 64) (f (bit / 64)) = 0
  · refine (dec_zero g len cap i sh bit _ w h hbit hlen hl hc (by rw [z1]; simpa using c0)).mono ?_
    rintro e w' ⟨rfl, n, rfl⟩
    refine ⟨rfl, (hA.drewN n).congr fun j _ => ?_, fun B _ => below_drewN (Below.refl _ _) _⟩
    by_cases e : j = bit / 64
    · rw [if_pos e, e]; simp [decW, c0]
    · rw [if_neg e]
  · by_cases c1 : cellV sh (bit % 64) (f (bit / 64)) = lowN sh
    · refine (dec_full g len cap i sh bit _ w h hbit hlen hl hc (by rw [z1]; simpa using c0) (by rw [z2]; simpa using c1)).mono ?_
      rintro e w' ⟨rfl, n, rfl⟩
      refine ⟨rfl, (hA.drewN n).congr fun j _ => ?_, fun B _ => below_drewN (Below.refl _ _) _⟩
      by_cases e : j = bit / 64
      · rw [if_pos e, e]; simp [decW, c1]
      · rw [if_neg e]
    · refine (dec_go g len cap i sh bit _ w h hbit hlen hl hc hz (by rw [z1]; simpa using c0) (by rw [z2]; simpa using c1)).mono ?_
      rintro e w' ⟨rfl, n, rfl⟩
      rw [sub_wrap sh (bit % 64) (f (bit / 64)) hm hx c0]
      refine ⟨rfl, ((hA.drewN n).set hlen).congr fun j _ => ?_, fun B hB => (below_drewN (Below.refl _ _) _).setCell hB _⟩
      by_cases e : j = bit / 64
      · rw [if_pos e, if_pos e, e]; simp [decW, c0, c1]
      · rw [if_neg e, if_neg e]

/-! ### cell, incrementUnshared -/
theorem cell_any (g len cap i sh : Nat) (w : World) (f : Nat → Nat) (h : sh ≤ 6) (hl : len ≤ 1024) (hi : i * 2 ^ sh < len * 64) (hA : Arr g len w f) (hf : ∀ j, f j < 18446744073709551616) :
    Calls Yba.prog 8 #[.slice (some ⟨g, 0, none⟩) len cap, .int .u64 i, .int .u64 sh, .int .u64 (lowN sh)] w fun e w' =>
      e = .returned (.int .u64 (cellV sh (i * 2 ^ sh % 64) (f (i * 2 ^ sh / 64)))) ∧ w' = w := by
  obtain ⟨bit, hb⟩ : ∃ bit, bit = i * 2 ^ sh := ⟨_, rfl⟩
  have hbit : IntKind.u64.wrap ((i : Int) * 2 ^ sh) = bit := by
    have e : (i : Int) * 2 ^ sh = ((i * 2 ^ sh : Nat) : Int) := by simp
    rw [e, wrap_nat, ← hb]; omega
  rw [← hb] at hi ⊢
  have hlen : bit / 64 < len := by omega
  have hc := (hA (bit / 64) hlen).1
  have hx := hf (bit / 64)
  clear hA hf hb
  generalize f (bit / 64) = x at hc hx ⊢
  have hld := load_run0 hc
  go_enter Yba.func8, Yba.ntmps8
  go_wp2
  go_ret
  refine ⟨ret_int ?_, rfl⟩
  exact bits_low sh (bit % 64) x h hx

theorem inc_wide (g len cap i sh bit x : Nat) (w : World) (h0 : ((sh : Int) == 0) = false) (h : sh ≤ 6) (hbit : IntKind.u64.wrap ((i : Int) * 2 ^ sh) = bit) (hlen : bit / 64 < len) (_hl : len ≤ 1024)
    (hc : w.cell? ⟨g, bit / 64, none⟩ = some (.int .u64 x)) (hf : w.frozen? ⟨g, bit / 64, none⟩ = false)
    (hz' : (bits .and .u64 x (maskN sh (bit % 64)) != (maskN sh (bit % 64) : Int)) = true) :
    Calls Yba.prog 9 #[.slice (some ⟨g, 0, none⟩) len cap, .int .u64 i, .int .u64 sh] w fun e w' => e = .returned (.tuple #[]) ∧
      w' = w.setCell ⟨g, bit / 64, none⟩ (.int .u64 (IntKind.u64.wrap ((x : Int) + IntKind.u64.wrap (2 ^ (bit % 64))))) := by
  have hm : bit % 64 < 64 := Nat.mod_lt _ (by omega)
  go_enter Yba.func9, Yba.ntmps9
  go_wp2_with ((go_at_call 7; refine (mask_any sh (bit % 64) h hm _).mono ?_; rintro e w' ⟨rfl, rfl⟩))
  go_end0
  exact ⟨rfl, rfl⟩

end Go.Proofs.Ybulkajre
