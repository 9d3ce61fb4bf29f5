/-
  THE WALK of weighbridge.LawS0889CTry: it returns true; nothing that was there turns.
-/
import Derived.Test.YbulkrjsFmtSlow
import Derived.ProofKit
namespace Go.Proofs.YbulkrjsFmt
open Go.MuLone Go.RowKit Go.Proofs.YbulkrjsFmt.Bits

theorem mod_half (a s : Int) (h0 : 0 ≤ s) : 0 ≤ a % (s / 2 + 1) ∧ a % (s / 2 + 1) ≤ s / 2 := by
  have := Int.emod_nonneg a (b := s / 2 + 1) (by omega)
  have := Int.emod_lt_of_pos a (b := s / 2 + 1) (by omega)
  omega

set_option maxHeartbeats 1600000 in
theorem try_size (a0 a1 a2 a3 : Int) (w : World) (b0 : 0 ≤ a0) (b0' : a0 ≤ 18446744073709551615) (b1 : 0 ≤ a1) (b2 : 0 ≤ a2) (b3 : 0 ≤ a3) (b3' : a3 ≤ 18446744073709551615)
    (l0 : 0 ≤ a1 % (a0 / 2 + 1)) (l1 : a1 % (a0 / 2 + 1) ≤ a0 / 2) (m0 : 0 ≤ a2 % (a0 / 2 + 1)) (m1 : a2 % (a0 / 2 + 1) ≤ a0 / 2) (he : Hid (a1 % (a0 / 2 + 1) = a0 / 2)) :
    Calls Ybaf.prog 7 #[.int .u64 a0, .int .u64 a1, .int .u64 a2, .int .u64 a3] w fun e w' => e = .returned (.bool true) ∧ Grown w w' := by
  have hnt : Hid (bits .andNot .i64 (a2 % (a0 / 2 + 1)) top = a2 % (a0 / 2 + 1)) := andNot_low _ m0 (by omega)
  by_cases hf : a3 / 2 ≤ a0 / 2 - a2 % (a0 / 2 + 1)
  · have hd : decide (a3 / 2 ≤ a0 / 2 - a2 % (a0 / 2 + 1)) = true := by simp; omega
    go_enter Ybaf.func7, Ybaf.ntmps7
    go_wp2_with (go_at_call 8; refine (new_sem (a0 / 2) _ (by omega)).mono ?_; rintro e w' ⟨rfl, k, rfl⟩)
    refine (try_free w (a0 / 2) 0 (a2 % (a0 / 2 + 1)) (a0 / 2) (a2 % (a0 / 2 + 1)) k m0 (by omega) (by omega) (by omega) (by omega) (by exact Int.zero_add _)).mono ?_
    rintro e w' ⟨rfl, rfl⟩
    go_wp2_with fail
    rw [he.out]
    refine (setLimit_size w (a0 / 2) (a2 % (a0 / 2 + 1)) k m0 (by omega) (by omega) (by omega)).mono ?_
    rintro e w' ⟨rfl, k1, rfl⟩
    go_wp2_with fail
    refine (admits_drain w.heap.size 0 _ (a2 % (a0 / 2 + 1)) 0 _ (by exact sem1 ..) hnt).mono ?_
    rintro e w' ⟨rfl, rfl⟩
    go_wp2_with fail
    refine (inuse_at w.heap.size 0 _ (a2 % (a0 / 2 + 1)) _ (by exact sem1 ..) hnt).mono ?_
    rintro e w' ⟨rfl, rfl⟩
    go_wp2_with fail
    refine (admits_fits w.heap.size 0 _ (a2 % (a0 / 2 + 1)) (a0 / 2) (a3 / 2) _ (by exact sem1 ..) (by exact sem4 ..) hnt m0 (by omega) (by omega) (by omega)).mono ?_
    rintro e w' ⟨rfl, k2, rfl⟩
    go_wp2_with fail
    refine (try_free w (a0 / 2) (a2 % (a0 / 2 + 1)) (a2 % (a0 / 2 + 1) + a3 / 2) (a0 / 2) (a3 / 2) _ (by omega) m0 m1 (by omega) hf (by exact rfl)).mono ?_
    rintro e w' ⟨rfl, rfl⟩
    go_wp2
    go_ret
    exact ⟨rfl, sem_grown ..⟩
  · have hd : decide (a3 / 2 ≤ a0 / 2 - a2 % (a0 / 2 + 1)) = false := by simp; omega
    go_enter Ybaf.func7, Ybaf.ntmps7
    go_wp2_with (go_at_call 8; refine (new_sem (a0 / 2) _ (by omega)).mono ?_; rintro e w' ⟨rfl, k, rfl⟩)
    refine (try_free w (a0 / 2) 0 (a2 % (a0 / 2 + 1)) (a0 / 2) (a2 % (a0 / 2 + 1)) k m0 (by omega) (by omega) (by omega) (by omega) (by exact Int.zero_add _)).mono ?_
    rintro e w' ⟨rfl, rfl⟩
    go_wp2_with fail
    rw [he.out]
    refine (setLimit_size w (a0 / 2) (a2 % (a0 / 2 + 1)) k m0 (by omega) (by omega) (by omega)).mono ?_
    rintro e w' ⟨rfl, k1, rfl⟩
    go_wp2_with fail
    refine (admits_drain w.heap.size 0 _ (a2 % (a0 / 2 + 1)) 0 _ (by exact sem1 ..) hnt).mono ?_
    rintro e w' ⟨rfl, rfl⟩
    go_wp2_with fail
    refine (inuse_at w.heap.size 0 _ (a2 % (a0 / 2 + 1)) _ (by exact sem1 ..) hnt).mono ?_
    rintro e w' ⟨rfl, rfl⟩
    go_wp2_with fail
    refine (admits_fits w.heap.size 0 _ (a2 % (a0 / 2 + 1)) (a0 / 2) (a3 / 2) _ (by exact sem1 ..) (by exact sem4 ..) hnt m0 (by omega) (by omega) (by omega)).mono ?_
    rintro e w' ⟨rfl, k2, rfl⟩
    go_wp2_with fail
    refine (try_full w (a0 / 2) (a2 % (a0 / 2 + 1)) (a3 / 2) _ (by omega) m0 m1 (by omega) (by omega)).mono ?_
    rintro e w' ⟨rfl, k3, rfl⟩
    go_wp2
    go_ret
    exact ⟨rfl, sem_grown ..⟩

set_option maxHeartbeats 1600000 in
theorem try_below (a0 a1 a2 a3 : Int) (w : World) (b0 : 0 ≤ a0) (b0' : a0 ≤ 18446744073709551615) (b1 : 0 ≤ a1) (b2 : 0 ≤ a2) (b3 : 0 ≤ a3) (b3' : a3 ≤ 18446744073709551615)
    (l0 : 0 ≤ a1 % (a0 / 2 + 1)) (l1 : a1 % (a0 / 2 + 1) < a0 / 2) (m0 : 0 ≤ a2 % (a0 / 2 + 1)) (m1 : a2 % (a0 / 2 + 1) ≤ a0 / 2) :
    Calls Ybaf.prog 7 #[.int .u64 a0, .int .u64 a1, .int .u64 a2, .int .u64 a3] w fun e w' => e = .returned (.bool true) ∧ Grown w w' := by
  have hnt : Hid (bits .andNot .i64 (lk (a2 % (a0 / 2 + 1))) top = a2 % (a0 / 2 + 1)) := andNot_lk _ m0 (by omega)
  by_cases hf : a3 / 2 ≤ a1 % (a0 / 2 + 1) - a2 % (a0 / 2 + 1)
  · have hd : decide (a3 / 2 ≤ a1 % (a0 / 2 + 1) - a2 % (a0 / 2 + 1)) = true := by simp; omega
    go_enter Ybaf.func7, Ybaf.ntmps7
    go_wp2_with (go_at_call 8; refine (new_sem (a0 / 2) _ (by omega)).mono ?_; rintro e w' ⟨rfl, k, rfl⟩)
    refine (try_free w (a0 / 2) 0 (a2 % (a0 / 2 + 1)) (a0 / 2) (a2 % (a0 / 2 + 1)) k m0 (by omega) (by omega) (by omega) (by omega) (by exact Int.zero_add _)).mono ?_
    rintro e w' ⟨rfl, rfl⟩
    go_wp2_with fail
    refine (setLimit_below w (a0 / 2) (a2 % (a0 / 2 + 1)) (a1 % (a0 / 2 + 1)) k m0 (by omega) l0 l1 (by omega)).mono ?_
    rintro e w' ⟨rfl, k1, rfl⟩
    go_wp2_with fail
    refine (admits_drain w.heap.size 0 _ (a2 % (a0 / 2 + 1)) 0 _ (by exact sem1 ..) hnt).mono ?_
    rintro e w' ⟨rfl, rfl⟩
    go_wp2_with fail
    refine (inuse_at w.heap.size 0 _ (a2 % (a0 / 2 + 1)) _ (by exact sem1 ..) hnt).mono ?_
    rintro e w' ⟨rfl, rfl⟩
    go_wp2_with fail
    refine (admits_fits w.heap.size 0 _ (a2 % (a0 / 2 + 1)) (a1 % (a0 / 2 + 1)) (a3 / 2) _ (by exact sem1 ..) (by exact sem4 ..) hnt m0 (by omega) (by omega) (by omega)).mono ?_
    rintro e w' ⟨rfl, k2, rfl⟩
    go_wp2_with fail
    refine (try_under w (a0 / 2) (a2 % (a0 / 2 + 1)) (a1 % (a0 / 2 + 1)) (a3 / 2) _ (by omega) m0 (by omega) l0 l1 (by omega) hf).mono ?_
    rintro e w' ⟨rfl, k3, rfl⟩
    go_wp2
    go_ret
    exact ⟨rfl, sem_grown ..⟩
  · have hd : decide (a3 / 2 ≤ a1 % (a0 / 2 + 1) - a2 % (a0 / 2 + 1)) = false := by simp; omega
    go_enter Ybaf.func7, Ybaf.ntmps7
    go_wp2_with (go_at_call 8; refine (new_sem (a0 / 2) _ (by omega)).mono ?_; rintro e w' ⟨rfl, k, rfl⟩)
    refine (try_free w (a0 / 2) 0 (a2 % (a0 / 2 + 1)) (a0 / 2) (a2 % (a0 / 2 + 1)) k m0 (by omega) (by omega) (by omega) (by omega) (by exact Int.zero_add _)).mono ?_
    rintro e w' ⟨rfl, rfl⟩
    go_wp2_with fail
    refine (setLimit_below w (a0 / 2) (a2 % (a0 / 2 + 1)) (a1 % (a0 / 2 + 1)) k m0 (by omega) l0 l1 (by omega)).mono ?_
    rintro e w' ⟨rfl, k1, rfl⟩
    go_wp2_with fail
    refine (admits_drain w.heap.size 0 _ (a2 % (a0 / 2 + 1)) 0 _ (by exact sem1 ..) hnt).mono ?_
    rintro e w' ⟨rfl, rfl⟩
    go_wp2_with fail
    refine (inuse_at w.heap.size 0 _ (a2 % (a0 / 2 + 1)) _ (by exact sem1 ..) hnt).mono ?_
    rintro e w' ⟨rfl, rfl⟩
    go_wp2_with fail
    refine (admits_fits w.heap.size 0 _ (a2 % (a0 / 2 + 1)) (a1 % (a0 / 2 + 1)) (a3 / 2) _ (by exact sem1 ..) (by exact sem4 ..) hnt m0 (by omega) (by omega) (by omega)).mono ?_
    rintro e w' ⟨rfl, k2, rfl⟩
    go_wp2_with fail
    refine (try_over w (a0 / 2) (a2 % (a0 / 2 + 1)) (a1 % (a0 / 2 + 1)) (a3 / 2) _ (by omega) m0 (by omega) l0 l1 (by omega) (by omega)).mono ?_
    rintro e w' ⟨rfl, k3, rfl⟩
    go_wp2
    go_ret
    exact ⟨rfl, sem_grown ..⟩

theorem try_walk (a0 a1 a2 a3 : Int) (w : World) (b0 : 0 ≤ a0) (b0' : a0 ≤ 18446744073709551615) (b1 : 0 ≤ a1) (_b1' : a1 ≤ 18446744073709551615) (b2 : 0 ≤ a2) (_b2' : a2 ≤ 18446744073709551615) (b3 : 0 ≤ a3) (b3' : a3 ≤ 18446744073709551615) :
    Calls Ybaf.prog 7 #[.int .u64 a0, .int .u64 a1, .int .u64 a2, .int .u64 a3] w fun e w' => e = .returned (.bool true) ∧ Grown w w' := by
  obtain ⟨l0, l1⟩ := mod_half a1 a0 b0
  obtain ⟨m0, m1⟩ := mod_half a2 a0 b0
  by_cases he : a1 % (a0 / 2 + 1) = a0 / 2
  · exact try_size a0 a1 a2 a3 w b0 b0' b1 b2 b3 b3' l0 l1 m0 m1 he
  · exact try_below a0 a1 a2 a3 w b0 b0' b1 b2 b3 b3' l0 (by omega) m0 m1

end Go.Proofs.YbulkrjsFmt
