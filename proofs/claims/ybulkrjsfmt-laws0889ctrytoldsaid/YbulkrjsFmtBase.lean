/-
  CONTRACTS over the dump ybulkrjsfmt: NewWeighted, the mutex's TryLock where the lock is free, Waiting.
-/
import Derived.Test.YbulkrjsFmtLocks
import Derived.Conc.MuLone
import Derived.WalkKit
import Derived.BigQuiet
namespace Go.Proofs.YbulkrjsFmt
open Go.MuLone Go.RowKit

set_option maxHeartbeats 400000 in
theorem new_any (n : Int) (w : World) (h0 : 0 ≤ n) :
    Calls Ybaf.prog 8 #[.int .i64 n] w fun e w' => e = .returned (.pointer (some ⟨w.heap.size, 0, none⟩)) ∧
      w' = w.alloc (.cells #[.int .i64 n, .int .i64 0, .int .i32 0, .int .u32 0, .int .i64 n, .pointer none, .pointer none, .int .i64 0, .pointer none] 43) := by
  go_enter Ybaf.func8, Ybaf.ntmps8
  go_wp2
  go_ret
  exact ⟨rfl, rfl⟩

set_option maxRecDepth 100000 in
set_option maxHeartbeats 400000 in
theorem itrylock_free (a : Addr) (w : World) (hc : w.cell? a = some (.int .i32 0)) (hz : w.frozen? a = false) :
    Calls Ybaf.prog 34 #[.pointer (some a)] w fun e w' => e = .returned (.bool true) ∧ w' = w.setCell a (.int .i32 1) := by
  have hd := disable muLib
  have he := enable muLib
  have ha := acquire muLib
  have hcas := run_call_cas_hit (P := Ybaf.prog) Ybaf.func45 (by kernel_rfl) (by kernel_rfl) (by kernel_rfl) .i32 (by kernel_rfl) (y := 1) hc hz
  have hc' : (w.setCell a (.int .i32 1)).cell? a = some (.int .i32 1) := by simp [go_sem, hc]
  have hcv := run_convert_to_unsafe (P := Ybaf.prog) (src := 67) (dst := 71) Ybaf.underlying67 Ybaf.underlying71 (by kernel_rfl) hc'
  have e1 : bits .and .i32 0 5 = 0 := by decide
  have e2 : bits .or .i32 0 1 = 1 := by decide
  go_enter Ybaf.func34, Ybaf.ntmps34
  go_wp2
  go_ret
  exact ⟨rfl, rfl⟩

set_option maxHeartbeats 400000 in
theorem trylock_free (a : Addr) (w : World) (hc : w.cell? a = some (.int .i32 0)) (hz : w.frozen? a = false) :
    Calls Ybaf.prog 17 #[.pointer (some a)] w fun e w' => e = .returned (.bool true) ∧ w' = w.setCell a (.int .i32 1) := by
  go_enter Ybaf.func17, Ybaf.ntmps17
  go_wp2_with (go_at_call 34; refine (itrylock_free a _ hc hz).mono ?_; rintro e w' ⟨rfl, rfl⟩)
  go_ret
  exact ⟨rfl, rfl⟩

set_option maxHeartbeats 400000 in
theorem waiting_any (b off : Nat) (k : Int) (w : World) (h2 : w.cell? ⟨b, off + 2, none⟩ = some (.int .i32 0)) (h7 : w.cell? ⟨b, off + 7, none⟩ = some (.int .i64 k)) (z2 : w.frozen? ⟨b, off + 2, none⟩ = false) :
    Calls Ybaf.prog 16 #[.pointer (some ⟨b, off, none⟩)] w fun e w' => e = .returned (.int .i64 k) ∧ w' = (w.setCell ⟨b, off + 2, none⟩ (.int .i32 1)).setCell ⟨b, off + 2, none⟩ (.int .i32 0) := by
  go_enter Ybaf.func16, Ybaf.ntmps16
  go_wp2_with (go_at_call 30; refine (lock_free muLib ⟨b, off + 2, none⟩ _ h2 z2).mono ?_; rintro e w' ⟨rfl, rfl⟩)
  refine (unlock_held muLib ⟨b, off + 2, none⟩ _ ?_ ?_).mono ?_
  · exact World.cell?_setCell_same w ⟨b, off + 2, none⟩ (.int .i32 1) h2
  · simp [z2]
  rintro e w' ⟨rfl, rfl⟩
  go_wp2
  go_ret
  exact ⟨rfl, rfl⟩

end Go.Proofs.YbulkrjsFmt
