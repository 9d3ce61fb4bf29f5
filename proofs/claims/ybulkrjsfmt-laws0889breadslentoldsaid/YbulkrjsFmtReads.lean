/-
  THE WALK of weighbridge.LawS0889BReadsLen: it returns true; nothing that was there turns.
-/
import Derived.Test.YbulkrjsFmtBase
import Derived.ProofKit
namespace Go.Proofs.YbulkrjsFmt
open Go.MuLone Go.RowKit

set_option maxHeartbeats 800000 in
theorem reads_walk (n k : Int) (w : World) (h0 : 0 ≤ n) (h1 : n ≤ 255) :
    Calls Ybaf.prog 5 #[.int .u8 n, .int .i64 k] w fun e w' => e = .returned (.bool true) ∧ Grown w w' := by
  go_enter Ybaf.func5, Ybaf.ntmps5
  go_wp2_with (go_at_call 8; refine (new_any n _ h0).mono ?_; rintro e w' ⟨rfl, rfl⟩)
  refine (waiting_any w.heap.size 0 k _ (by simp [go_sem]) (by simp [go_sem]) (by simp [go_sem])).mono ?_
  rintro e w' ⟨rfl, rfl⟩
  go_wp2_with fail
  refine (waiting_any w.heap.size 0 k _ (by simp [go_sem]) (by simp [go_sem]) (by simp [go_sem])).mono ?_
  rintro e w' ⟨rfl, rfl⟩
  go_wp2_with fail
  refine (trylock_free ⟨w.heap.size, 2, none⟩ _ (by simp [go_sem]) (by simp [go_sem])).mono ?_
  rintro e w' ⟨rfl, rfl⟩
  go_wp2_with fail
  refine (unlock_held muLib ⟨w.heap.size, 2, none⟩ _ (by simp [go_sem]) (by simp [go_sem])).mono ?_
  rintro e w' ⟨rfl, rfl⟩
  go_wp2
  go_ret
  exact ⟨rfl, (Grown.refl _).alloc _ _⟩

end Go.Proofs.YbulkrjsFmt
