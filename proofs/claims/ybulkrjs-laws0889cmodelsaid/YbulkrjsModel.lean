/-
  THE WALK of weighbridge.LawS0889CModel: it returns true; nothing that was there turns.
-/
import Derived.Test.YbulkrjsHeld
import Derived.ProofKit
namespace Go.Proofs.Ybulkrjs
open Go.Proofs.Ybulkrjs.Bits Go.RowKit

set_option maxHeartbeats 400000 in
theorem store_any (b off : Nat) (c : Int) (u : Value) (w : World) (hc : w.cell? ⟨b, off, none⟩ = some u) (hz : w.frozen? ⟨b, off, none⟩ = false) :
    Calls Yba.prog 4 #[.pointer (some ⟨b, off, none⟩), .int .i64 c] w fun e w' => e = .returned (.tuple #[]) ∧ w' = w.setCell ⟨b, off, none⟩ (.int .i64 c) := by
  have hl := run_call_store (P := Yba.prog) Yba.func7 (by kernel_rfl) (by kernel_rfl) (by kernel_rfl) (by kernel_rfl) (y := c) (k := .i64) hc hz
  go_enter Yba.func4, Yba.ntmps4
  go_wp2
  go_end0
  exact ⟨rfl, rfl⟩


theorem mod_bd (a s : Int) (h0 : 0 ≤ s) (h1 : s ≤ 18446744073709551615) : 0 ≤ a % (s / 2 + 1) ∧ a % (s / 2 + 1) ≤ 9223372036854775807 := by
  have hp : 0 < s / 2 + 1 := by omega
  have := Int.emod_nonneg a (b := s / 2 + 1) (by omega)
  have := Int.emod_lt_of_pos a hp
  omega

theorem grown_drewN {W w' : World} (h : Grown W w') (k : Nat) : Grown W (w'.drewN k) := h

set_option maxHeartbeats 400000 in
theorem walk_drain (a0 a1 a2 a4 : Int) (a3 : Bool) (b0 : 0 ≤ a0) (b0' : a0 ≤ 18446744073709551615)  (b1 : 0 ≤ a1) (b2 : 0 ≤ a2)
    (w : World) :
    Calls Yba.prog 3 #[.int .u64 a0, .int .u64 a1, .int .u64 a2, .bool a3, .int .i64 a4, .bool true] w fun e w' => e = .returned (.bool true) ∧ Grown w w' := by
  obtain ⟨m1, m1'⟩ := mod_bd a1 a0 b0 b0'
  obtain ⟨m2, m2'⟩ := mod_bd a2 a0 b0 b0'
  cases a3
  all_goals
    go_enter Yba.func3, Yba.ntmps3
    go_wp2_with (go_at_call 4; refine (store_any _ _ _ _ _ (by simp [go_sem]; rfl) (by simp [go_sem])).mono ?_; rintro e w' ⟨rfl, rfl⟩)
    refine (admits_drain w.heap.size 0 _ (a2 % (a0 / 2 + 1)) a4 _ (by simp [go_sem]; rfl) ?_).mono ?_
    · first | exact andNot_low _ m2 (by omega) | exact andNot_or _ m2 (by omega)
    rintro e w' ⟨rfl, k, rfl⟩
    go_wp2_with (go_at_call 6; refine (load_any w.heap.size 1 _ _ (by simp [go_sem]; rfl)).mono ?_; rintro e w' ⟨rfl, rfl⟩)
    go_ret
    exact ⟨rfl, grown_drewN ((Grown.refl _).alloc _ _) k⟩

set_option maxHeartbeats 400000 in
theorem walk_fits (a0 a1 a2 a4 : Int) (a3 : Bool) (b0 : 0 ≤ a0) (b0' : a0 ≤ 18446744073709551615)  (b1 : 0 ≤ a1) (b2 : 0 ≤ a2) (b4 : -9223372036854775808 ≤ a4) (b4' : a4 ≤ 9223372036854775807)
    (w : World) :
    Calls Yba.prog 3 #[.int .u64 a0, .int .u64 a1, .int .u64 a2, .bool a3, .int .i64 a4, .bool false] w fun e w' => e = .returned (.bool true) ∧ Grown w w' := by
  obtain ⟨m1, m1'⟩ := mod_bd a1 a0 b0 b0'
  obtain ⟨m2, m2'⟩ := mod_bd a2 a0 b0 b0'
  by_cases hn : 0 ≤ a4
  all_goals
  by_cases hf : a4 ≤ a1 % (a0 / 2 + 1) - a2 % (a0 / 2 + 1)
  all_goals
    cases a3
    all_goals
      go_enter Yba.func3, Yba.ntmps3
      go_wp2_with (go_at_call 4; refine (store_any _ _ _ _ _ (by simp [go_sem]; rfl) (by simp [go_sem])).mono ?_; rintro e w' ⟨rfl, rfl⟩)
      refine (admits_fits w.heap.size 0 _ (a2 % (a0 / 2 + 1)) (a1 % (a0 / 2 + 1)) a4 _ (by simp [go_sem]; rfl) (by simp [go_sem]) ?_ m2 m2' m1 m1').mono ?_
      · first | exact andNot_low _ m2 (by omega) | exact andNot_or _ m2 (by omega)
      rintro e w' ⟨rfl, k, rfl⟩
      go_wp2_with (go_at_call 6; refine (load_any w.heap.size 1 _ _ (by simp [go_sem]; rfl)).mono ?_; rintro e w' ⟨rfl, rfl⟩)
      go_ret
      exact ⟨rfl, grown_drewN ((Grown.refl _).alloc _ _) k⟩

end Go.Proofs.Ybulkrjs
