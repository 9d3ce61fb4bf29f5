/-
  THE WALK of weighbridge.LawS0889AGive: it returns true; nothing that was there turns.
-/
import Derived.Test.YbulkrjsFmtLocked
namespace Go.Proofs.YbulkrjsFmt
open Go.MuLone Go.RowKit Go.Proofs.YbulkrjsFmt.Bits

set_option maxHeartbeats 800000 in
theorem give_walk (a0 a1 a2 : Int) (w : World) (b0 : 0 ≤ a0) (b0' : a0 ≤ 4294967295) (b1 : 0 ≤ a1) (b1' : a1 ≤ 4294967295) (b2 : -2147483648 ≤ a2) (b2' : a2 ≤ 2147483647) :
    Calls Ybaf.prog 3 #[.int .u32 a0, .int .u32 a1, .int .i32 a2] w fun e w' => e = .returned (.bool true) ∧ Grown w w' := by
  obtain ⟨m0, m1⟩ := mod_bd a1 a0 b0
  by_cases hn : a2 ≤ a1 % (a0 + 1)
  · have hnt : Hid (bits .andNot .i64 (a1 % (a0 + 1) - a2) top = a1 % (a0 + 1) - a2) := andNot_low _ (by omega) (by omega)
    have sd := setCell_drewN
    have t1 := set1 w a0
    go_enter Ybaf.func3, Ybaf.ntmps3
    go_wp2_with (go_at_call 8; refine (new_sem a0 _ b0).mono ?_; rintro e w' ⟨rfl, k, rfl⟩)
    refine (try_free w a0 0 (a1 % (a0 + 1)) a0 (a1 % (a0 + 1)) k m0 (by omega) b0 (by omega) (by omega) (by exact Int.zero_add _)).mono ?_
    rintro e w' ⟨rfl, rfl⟩
    go_wp2_with fail
    refine (give_yes w.heap.size 0 (a1 % (a0 + 1)) a2 _ (by exact sem1 ..) (by exact semf ..) hn (by omega) (by omega)).mono ?_
    rintro e w' ⟨rfl, rfl⟩
    go_wp2_with fail
    refine (inuse_at w.heap.size 0 (a1 % (a0 + 1) - a2) (a1 % (a0 + 1) - a2) _ (by exact sem1 ..) hnt).mono ?_
    rintro e w' ⟨rfl, rfl⟩
    go_wp2_with fail
    refine (size_at w.heap.size 0 a0 _ (by exact sem0 ..)).mono ?_
    rintro e w' ⟨rfl, rfl⟩
    go_wp2
    go_ret
    exact ⟨rfl, sem_grown ..⟩
  · have hnt : Hid (bits .andNot .i64 (a1 % (a0 + 1)) top = a1 % (a0 + 1)) := andNot_low _ m0 (by omega)
    go_enter Ybaf.func3, Ybaf.ntmps3
    go_wp2_with (go_at_call 8; refine (new_sem a0 _ b0).mono ?_; rintro e w' ⟨rfl, k, rfl⟩)
    refine (try_free w a0 0 (a1 % (a0 + 1)) a0 (a1 % (a0 + 1)) k m0 (by omega) b0 (by omega) (by omega) (by exact Int.zero_add _)).mono ?_
    rintro e w' ⟨rfl, rfl⟩
    go_wp2_with fail
    refine (give_no w.heap.size 0 (a1 % (a0 + 1)) a2 _ (by exact sem1 ..) (by omega)).mono ?_
    rintro e w' ⟨rfl, rfl⟩
    go_wp2_with fail
    refine (inuse_at w.heap.size 0 (a1 % (a0 + 1)) (a1 % (a0 + 1)) _ (by exact sem1 ..) hnt).mono ?_
    rintro e w' ⟨rfl, rfl⟩
    go_wp2_with fail
    refine (size_at w.heap.size 0 a0 _ (by exact sem0 ..)).mono ?_
    rintro e w' ⟨rfl, rfl⟩
    go_wp2
    go_ret
    exact ⟨rfl, sem_grown ..⟩

end Go.Proofs.YbulkrjsFmt
