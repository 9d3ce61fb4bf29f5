/-
  THE WALK of weighbridge.LawS0889ALocked: it returns true; nothing that was there turns.
-/
import Derived.Test.YbulkrjsFmtLock
import Derived.ProofKit
namespace Go.Proofs.YbulkrjsFmt
open Go.MuLone Go.RowKit Go.Proofs.YbulkrjsFmt.Bits

theorem mod_bd (a s : Int) (h0 : 0 ≤ s) : 0 ≤ a % (s + 1) ∧ a % (s + 1) ≤ s := by
  have := Int.emod_nonneg a (b := s + 1) (by omega)
  have := Int.emod_lt_of_pos a (b := s + 1) (by omega)
  omega

set_option maxHeartbeats 800000 in
theorem locked_walk (a0 a1 a2 : Int) (w : World) (b0 : 0 ≤ a0) (b0' : a0 ≤ 4294967295) (b1 : 0 ≤ a1) (b1' : a1 ≤ 4294967295) (b2 : -2147483648 ≤ a2) (b2' : a2 ≤ 2147483647) :
    Calls Ybaf.prog 4 #[.int .u32 a0, .int .u32 a1, .int .i32 a2] w fun e w' => e = .returned (.bool true) ∧ Grown w w' := by
  obtain ⟨m0, m1⟩ := mod_bd a1 a0 b0
  have hor : Hid (bits .or .i64 (a1 % (a0 + 1)) top = lk (a1 % (a0 + 1))) := or_lk _ m0 (by omega)
  have han : Hid (bits .and .i64 (lk (a1 % (a0 + 1))) rest = a1 % (a0 + 1)) := and_lk _ m0 (by omega)
  have hnt : Hid (bits .andNot .i64 (a1 % (a0 + 1)) top = a1 % (a0 + 1)) := andNot_low _ m0 (by omega)
  have hlt : lk (a1 % (a0 + 1)) < a2 := lk_le _ _ (by omega)
  go_enter Ybaf.func4, Ybaf.ntmps4
  go_wp2_with (go_at_call 8; refine (new_sem a0 _ b0).mono ?_; rintro e w' ⟨rfl, k, rfl⟩)
  refine (try_free w a0 0 (a1 % (a0 + 1)) a0 (a1 % (a0 + 1)) k m0 (by omega) b0 (by omega) (by omega) (by exact Int.zero_add _)).mono ?_
  rintro e w' ⟨rfl, rfl⟩
  go_wp2_with fail
  refine (lock_sem w a0 (a1 % (a0 + 1)) (lk (a1 % (a0 + 1))) a0 k hor).mono ?_
  rintro e w' ⟨rfl, rfl⟩
  go_wp2_with fail
  refine (load_any w.heap.size 1 (lk (a1 % (a0 + 1))) _ (by exact sem1 ..)).mono ?_
  rintro e w' ⟨rfl, rfl⟩
  go_wp2_with fail
  refine (give_no w.heap.size 0 (lk (a1 % (a0 + 1))) a2 _ (by exact sem1 ..) hlt).mono ?_
  rintro e w' ⟨rfl, rfl⟩
  go_wp2_with fail
  refine (load_any w.heap.size 1 (lk (a1 % (a0 + 1))) _ (by exact sem1 ..)).mono ?_
  rintro e w' ⟨rfl, rfl⟩
  go_wp2_with fail
  refine (unlock_open w a0 (lk (a1 % (a0 + 1))) (a1 % (a0 + 1)) k han).mono ?_
  rintro e w' ⟨rfl, k', rfl⟩
  go_wp2_with fail
  refine (inuse_at w.heap.size 0 (a1 % (a0 + 1)) (a1 % (a0 + 1)) _ (by exact sem1 ..) hnt).mono ?_
  rintro e w' ⟨rfl, rfl⟩
  go_wp2_with fail
  refine (load_any w.heap.size 1 (a1 % (a0 + 1)) _ (by exact sem1 ..)).mono ?_
  rintro e w' ⟨rfl, rfl⟩
  go_wp2
  go_ret
  exact ⟨rfl, sem_grown ..⟩

end Go.Proofs.YbulkrjsFmt
