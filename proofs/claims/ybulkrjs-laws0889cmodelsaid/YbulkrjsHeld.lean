/-
  CONTRACTS of held, fits, admits over the dump ybulkrjs: they only read.
-/
import Derived.Test.YbulkrjsRows
import Derived.Test.YbulkrjsBits
import Derived.WalkKit
import Derived.BigQuiet
namespace Go.Proofs.Ybulkrjs
open Go.Proofs.Ybulkrjs.Bits Go.RowKit

set_option maxHeartbeats 400000 in
theorem load_any (b off : Nat) (c : Int) (w : World) (hc : w.cell? ⟨b, off, none⟩ = some (.int .i64 c)) :
    Calls Yba.prog 6 #[.pointer (some ⟨b, off, none⟩)] w fun e w' => e = .returned (.int .i64 c) ∧ w' = w := by
  have hl := run_call_load (P := Yba.prog) Yba.func10 (by kernel_rfl) (by kernel_rfl) (by kernel_rfl) .i64 (by kernel_rfl) hc
  go_enter Yba.func6, Yba.ntmps6
  go_wp2
  go_ret
  exact ⟨rfl, rfl⟩

set_option maxHeartbeats 400000 in
theorem held_any (b off : Nat) (c : Int) (w : World) (hc : w.cell? ⟨b, off + 1, none⟩ = some (.int .i64 c)) :
    Calls Yba.prog 8 #[.pointer (some ⟨b, off, none⟩)] w fun e w' => e = .returned (.int .i64 (bits .andNot .i64 c top)) ∧ w' = w := by
  go_enter Yba.func8, Yba.ntmps8
  go_wp2_with (go_at_call 6; refine (load_any b (off + 1) c _ hc).mono ?_; rintro e w' ⟨rfl, rfl⟩)
  go_ret
  exact ⟨rfl, rfl⟩

/-- .. the same, its value under a letter. -/
theorem held_at (b off : Nat) (c h : Int) (w : World) (hc : w.cell? ⟨b, off + 1, none⟩ = some (.int .i64 c)) (hh : bits .andNot .i64 c top = h) :
    Calls Yba.prog 8 #[.pointer (some ⟨b, off, none⟩)] w fun e w' => e = .returned (.int .i64 h) ∧ w' = w := by
  rw [← hh]; exact held_any b off c w hc

set_option maxHeartbeats 400000 in
theorem fits_at (b off : Nat) (c h l n : Int) (w : World) (hc : w.cell? ⟨b, off + 1, none⟩ = some (.int .i64 c)) (hl : w.cell? ⟨b, off + 4, none⟩ = some (.int .i64 l)) (H : Hid (bits .andNot .i64 c top = h))
    (h0 : 0 ≤ h) (h1 : h ≤ 9223372036854775807) (l0 : 0 ≤ l) (l1 : l ≤ 9223372036854775807) :
    Calls Yba.prog 9 #[.pointer (some ⟨b, off, none⟩), .int .i64 n] w fun e w' => e = .returned (.bool (decide (n ≤ l - h))) ∧ ∃ k, w' = w.drewN k := by
  go_enter Yba.func9, Yba.ntmps9
  go_wp2_with fail
  go_quiet ((go_at_call 8; exact Calls.quiet_of_same (held_at b off c h _ hc H.out)))
  go_wp2
  go_ret
  exact ⟨rfl, nq, rfl⟩

set_option maxHeartbeats 400000 in
theorem admits_drain (b off : Nat) (c h n : Int) (w : World) (hc : w.cell? ⟨b, off + 1, none⟩ = some (.int .i64 c)) (H : Hid (bits .andNot .i64 c top = h)) :
    Calls Yba.prog 5 #[.pointer (some ⟨b, off, none⟩), .int .i64 n, .bool true] w fun e w' => e = .returned (.bool (h == 0)) ∧ ∃ k, w' = w.drewN k := by
  go_enter Yba.func5, Yba.ntmps5
  go_wp2_with (go_at_call 8; refine (held_at b off c h _ hc H.out).mono ?_; rintro e w' ⟨rfl, rfl⟩)
  go_ret
  exact ⟨rfl, 0, rfl⟩

set_option maxHeartbeats 400000 in
theorem admits_fits (b off : Nat) (c h l n : Int) (w : World) (hc : w.cell? ⟨b, off + 1, none⟩ = some (.int .i64 c)) (hl : w.cell? ⟨b, off + 4, none⟩ = some (.int .i64 l)) (H : Hid (bits .andNot .i64 c top = h))
    (h0 : 0 ≤ h) (h1 : h ≤ 9223372036854775807) (l0 : 0 ≤ l) (l1 : l ≤ 9223372036854775807) :
    Calls Yba.prog 5 #[.pointer (some ⟨b, off, none⟩), .int .i64 n, .bool false] w fun e w' => e = .returned (.bool (decide (n ≤ l - h))) ∧ ∃ k, w' = w.drewN k := by
  go_enter Yba.func5, Yba.ntmps5
  go_wp2_with (go_at_call 9; refine (fits_at b off c h l n _ hc hl H h0 h1 l0 l1).mono ?_; rintro e w' ⟨rfl, k, rfl⟩)
  go_ret
  exact ⟨rfl, k, rfl⟩

end Go.Proofs.Ybulkrjs
