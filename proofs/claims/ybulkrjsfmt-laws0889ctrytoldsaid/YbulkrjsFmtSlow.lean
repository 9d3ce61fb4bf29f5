/-
  CONTRACTS over the dump ybulkrjsfmt: TryAcquire by the lock, grant where nobody is queued, SetLimit.
-/
import Derived.Test.YbulkrjsFmtLock
namespace Go.Proofs.YbulkrjsFmt
open Go.MuLone Go.RowKit Go.Proofs.YbulkrjsFmt.Bits

set_option maxHeartbeats 400000 in
theorem addHeld_any (b : Nat) (c c' n : Int) (w : World) (hc : w.cell? ⟨b, 1, none⟩ = some (.int .i64 c)) (hz : w.frozen? ⟨b, 1, none⟩ = false) (H : Hid (wrap64 (c + n) = c')) :
    Calls Ybaf.prog 27 #[.pointer (some ⟨b, 0, none⟩), .int .i64 n] w fun e w' => e = .returned (.tuple #[]) ∧ w' = w.setCell ⟨b, 1, none⟩ (.int .i64 c') := by
  go_enter Ybaf.func27, Ybaf.ntmps27
  go_wp2_with (go_at_call 38; refine (add_any b 1 c n _ hc hz).mono ?_; rintro e w' ⟨rfl, rfl⟩)
  go_end0
  exact ⟨rfl, by rw [← H.out]⟩

set_option maxHeartbeats 800000 in
/-- 'grant' where nobody is queued: it reads and leaves all as it is. -/
theorem grant_none (b : Nat) (w : World) (h5 : w.cell? ⟨b, 5, none⟩ = some (.pointer none)) :
    Calls Ybaf.prog 37 #[.pointer (some ⟨b, 0, none⟩)] w fun e w' => e = .returned (.tuple #[]) ∧ ∃ k, w' = w.drewN k := by
  go_enter Ybaf.func37, Ybaf.ntmps37
  go_wp2_with fail
  refine wp_loop_rounds 1 ?_
  rw [rounds_succ]
  go_wp2_with fail
  go_quiet (fail)
  go_wp2
  go_end0
  exact ⟨rfl, nq, rfl⟩

/-! ### SetLimit -/

set_option maxHeartbeats 800000 in
/-- 'SetLimit' to the size itself: the word is open again. -/
theorem setLimit_size (w : World) (s h : Int) (k : Nat) (h0 : 0 ≤ h) (h1 : h ≤ 9223372036854775807) (s0 : 0 ≤ s) (s1 : s ≤ 9223372036854775807) :
    Calls Ybaf.prog 20 #[.pointer (some ⟨w.heap.size, 0, none⟩), .int .i64 s] ((sem w s h 0 s).drewN k) fun e w' => e = .returned (.tuple #[]) ∧ ∃ k', w' = (sem w s h 0 s).drewN k' := by
  have hor : Hid (bits .or .i64 h top = lk h) := or_lk _ h0 h1
  have han : Hid (bits .and .i64 (lk h) rest = h) := and_lk _ h0 h1
  have sd := setCell_drewN
  have t4 := set4 w s
  have c0 := sem0 w s
  have c4 := sem4 w s
  have f4 := semf w s
  go_enter Ybaf.func20, Ybaf.ntmps20
  go_wp2_with fail
  refine (lock_sem w s h (lk h) s k hor).mono ?_
  rintro e w' ⟨rfl, rfl⟩
  go_wp2_with fail
  refine (grant_none w.heap.size _ (by exact sem5 ..)).mono ?_
  rintro e w' ⟨rfl, m, rfl⟩
  go_wp2_with fail
  refine (unlock_open w s (lk h) h _ han).mono ?_
  rintro e w' ⟨rfl, k', rfl⟩
  go_wp2
  go_end0
  exact ⟨rfl, k', rfl⟩

set_option maxHeartbeats 800000 in
/-- 'SetLimit' below the size: the word stays locked. -/
theorem setLimit_below (w : World) (s h l : Int) (k : Nat) (h0 : 0 ≤ h) (h1 : h ≤ 9223372036854775807) (l0 : 0 ≤ l) (ls : l < s) (_s1 : s ≤ 9223372036854775807) :
    Calls Ybaf.prog 20 #[.pointer (some ⟨w.heap.size, 0, none⟩), .int .i64 l] ((sem w s h 0 s).drewN k) fun e w' => e = .returned (.tuple #[]) ∧ ∃ k', w' = (sem w s (lk h) 0 l).drewN k' := by
  have hor : Hid (bits .or .i64 h top = lk h) := or_lk _ h0 h1
  have sd := setCell_drewN
  have t4 := set4 w s
  have c0 := sem0 w s
  have c4 := sem4 w s
  have f4 := semf w s
  go_enter Ybaf.func20, Ybaf.ntmps20
  go_wp2_with fail
  refine (lock_sem w s h (lk h) s k hor).mono ?_
  rintro e w' ⟨rfl, rfl⟩
  go_wp2_with fail
  refine (grant_none w.heap.size _ (by exact sem5 ..)).mono ?_
  rintro e w' ⟨rfl, m, rfl⟩
  go_wp2_with fail
  refine (unlock_shut w s (lk h) l _ (by simp; omega)).mono ?_
  rintro e w' ⟨rfl, k', rfl⟩
  go_wp2
  go_end0
  exact ⟨rfl, k', rfl⟩

/-! ### TryAcquire by the lock -/

set_option maxHeartbeats 800000 in
/-- The word is open, n does not fit: refused, all as it was. -/
theorem try_full (w : World) (s h n : Int) (k : Nat) (n0 : 0 ≤ n) (h0 : 0 ≤ h) (hs : h ≤ s) (s1 : s ≤ 9223372036854775807) (hn : s - h < n) :
    Calls Ybaf.prog 9 #[.pointer (some ⟨w.heap.size, 0, none⟩), .int .i64 n] ((sem w s h 0 s).drewN k) fun e w' => e = .returned (.bool false) ∧ ∃ k', w' = (sem w s h 0 s).drewN k' := by
  have hor : Hid (bits .or .i64 h top = lk h) := or_lk _ h0 (by omega)
  have han : Hid (bits .and .i64 (lk h) rest = h) := and_lk _ h0 (by omega)
  have hnt : Hid (bits .andNot .i64 (lk h) top = h) := andNot_lk _ h0 (by omega)
  have hd : decide (n ≤ s - h) = false := by simp; omega
  go_enter Ybaf.func9, Ybaf.ntmps9
  go_wp2_with (go_at_call 23; refine (weight_ok n _ n0).mono ?_; rintro e w' ⟨rfl, rfl⟩)
  refine (take_no w.heap.size 0 s h n _ (by exact sem0 ..) (by exact sem1 ..) h0 hs s1 hn).mono ?_
  rintro e w' ⟨rfl, rfl⟩
  go_wp2_with fail
  refine (lock_sem w s h (lk h) s k hor).mono ?_
  rintro e w' ⟨rfl, rfl⟩
  go_wp2_with fail
  refine (empty_at w.heap.size 5 _ (by exact sem5 ..)).mono ?_
  rintro e w' ⟨rfl, rfl⟩
  go_wp2_with fail
  refine (fits_at w.heap.size 0 (lk h) h s n _ (by exact sem1 ..) (by exact sem4 ..) hnt h0 (by omega) (by omega) s1).mono ?_
  rintro e w' ⟨rfl, m, rfl⟩
  go_wp2_with fail
  refine (unlock_open w s (lk h) h _ han).mono ?_
  rintro e w' ⟨rfl, k', rfl⟩
  go_wp2
  go_ret
  exact ⟨rfl, k', rfl⟩

set_option maxHeartbeats 800000 in
/-- The limit lies below the size (the word is locked), n fits under it: taken. -/
theorem try_under (w : World) (s h l n : Int) (k : Nat) (n0 : 0 ≤ n) (h0 : 0 ≤ h) (h1 : h ≤ 9223372036854775807) (l0 : 0 ≤ l) (ls : l < s) (s1 : s ≤ 9223372036854775807) (hn : n ≤ l - h) :
    Calls Ybaf.prog 9 #[.pointer (some ⟨w.heap.size, 0, none⟩), .int .i64 n] ((sem w s (lk h) 0 l).drewN k) fun e w' => e = .returned (.bool true) ∧ ∃ k', w' = (sem w s (lk (h + n)) 0 l).drewN k' := by
  have hor : Hid (bits .or .i64 (lk h) top = lk h) := or_again _ h0 h1
  have hnt : Hid (bits .andNot .i64 (lk h) top = h) := andNot_lk _ h0 h1
  have had : Hid (wrap64 (lk h + n) = lk (h + n)) := lk_add h n h0 n0 (by omega)
  have hd : decide (n ≤ l - h) = true := by simp; omega
  have sd := setCell_drewN
  have t1 := set1 w s
  go_enter Ybaf.func9, Ybaf.ntmps9
  go_wp2_with (go_at_call 23; refine (weight_ok n _ n0).mono ?_; rintro e w' ⟨rfl, rfl⟩)
  refine (take_locked w.heap.size 0 s (lk h) n _ (by exact sem0 ..) (by exact sem1 ..) (lk_neg h h1)).mono ?_
  rintro e w' ⟨rfl, rfl⟩
  go_wp2_with fail
  refine (lock_sem w s (lk h) (lk h) l k hor).mono ?_
  rintro e w' ⟨rfl, rfl⟩
  go_wp2_with fail
  refine (empty_at w.heap.size 5 _ (by exact sem5 ..)).mono ?_
  rintro e w' ⟨rfl, rfl⟩
  go_wp2_with fail
  refine (fits_at w.heap.size 0 (lk h) h l n _ (by exact sem1 ..) (by exact sem4 ..) hnt h0 h1 l0 (by omega)).mono ?_
  rintro e w' ⟨rfl, m, rfl⟩
  go_wp2_with fail
  refine (addHeld_any w.heap.size (lk h) (lk (h + n)) n _ (by exact sem1 ..) (by exact semf ..) had).mono ?_
  rintro e w' ⟨rfl, rfl⟩
  go_wp2_with fail
  refine (unlock_shut w s (lk (h + n)) l _ (by simp; omega)).mono ?_
  rintro e w' ⟨rfl, k', rfl⟩
  go_wp2
  go_ret
  exact ⟨rfl, k', rfl⟩

set_option maxHeartbeats 800000 in
/-- The limit lies below the size, n does not fit under it: refused. -/
theorem try_over (w : World) (s h l n : Int) (k : Nat) (n0 : 0 ≤ n) (h0 : 0 ≤ h) (h1 : h ≤ 9223372036854775807) (l0 : 0 ≤ l) (ls : l < s) (s1 : s ≤ 9223372036854775807) (hn : l - h < n) :
    Calls Ybaf.prog 9 #[.pointer (some ⟨w.heap.size, 0, none⟩), .int .i64 n] ((sem w s (lk h) 0 l).drewN k) fun e w' => e = .returned (.bool false) ∧ ∃ k', w' = (sem w s (lk h) 0 l).drewN k' := by
  have hor : Hid (bits .or .i64 (lk h) top = lk h) := or_again _ h0 h1
  have hnt : Hid (bits .andNot .i64 (lk h) top = h) := andNot_lk _ h0 h1
  have hd : decide (n ≤ l - h) = false := by simp; omega
  go_enter Ybaf.func9, Ybaf.ntmps9
  go_wp2_with (go_at_call 23; refine (weight_ok n _ n0).mono ?_; rintro e w' ⟨rfl, rfl⟩)
  refine (take_locked w.heap.size 0 s (lk h) n _ (by exact sem0 ..) (by exact sem1 ..) (lk_neg h h1)).mono ?_
  rintro e w' ⟨rfl, rfl⟩
  go_wp2_with fail
  refine (lock_sem w s (lk h) (lk h) l k hor).mono ?_
  rintro e w' ⟨rfl, rfl⟩
  go_wp2_with fail
  refine (empty_at w.heap.size 5 _ (by exact sem5 ..)).mono ?_
  rintro e w' ⟨rfl, rfl⟩
  go_wp2_with fail
  refine (fits_at w.heap.size 0 (lk h) h l n _ (by exact sem1 ..) (by exact sem4 ..) hnt h0 h1 l0 (by omega)).mono ?_
  rintro e w' ⟨rfl, m, rfl⟩
  go_wp2_with fail
  refine (unlock_shut w s (lk h) l _ (by simp; omega)).mono ?_
  rintro e w' ⟨rfl, k', rfl⟩
  go_wp2
  go_ret
  exact ⟨rfl, k', rfl⟩

end Go.Proofs.YbulkrjsFmt
