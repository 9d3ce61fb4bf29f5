/-
  CONTRACTS over the dump ybulkrjsfmt: lock, unlock, TryAcquire, grant, SetLimit on a semaphore of the call's own making.
-/
import Derived.Test.YbulkrjsFmtSem
namespace Go.Proofs.YbulkrjsFmt
open Go.MuLone Go.RowKit Go.Proofs.YbulkrjsFmt.Bits

/-- The world behind w that holds a new semaphore: size s, word c, mutex word m, limit l, nobody queued. -/
def sem (w : World) (s c m l : Int) : World :=
  w.alloc (.cells #[.int .i64 s, .int .i64 c, .int .i32 m, .int .u32 0, .int .i64 l, .pointer none, .pointer none, .int .i64 0, .pointer none] 43)

theorem setCell_drewN (x : World) (n : Nat) (a : Addr) (v : Value) : (x.drewN n).setCell a v = (x.setCell a v).drewN n := rfl

section
variable (w : World) (s c m l : Int)
theorem sem0 : (sem w s c m l).cell? ⟨w.heap.size, 0, none⟩ = some (.int .i64 s) := by simp [sem, go_sem]
theorem sem1 : (sem w s c m l).cell? ⟨w.heap.size, 1, none⟩ = some (.int .i64 c) := by simp [sem, go_sem]
theorem sem2 : (sem w s c m l).cell? ⟨w.heap.size, 2, none⟩ = some (.int .i32 m) := by simp [sem, go_sem]
theorem sem4 : (sem w s c m l).cell? ⟨w.heap.size, 4, none⟩ = some (.int .i64 l) := by simp [sem, go_sem]
theorem sem5 : (sem w s c m l).cell? ⟨w.heap.size, 5, none⟩ = some (.pointer none) := by simp [sem, go_sem]
theorem semf (j : Nat) : (sem w s c m l).frozen? ⟨w.heap.size, j, none⟩ = false := by simp [sem, go_sem]
theorem set1 (c' : Int) : (sem w s c m l).setCell ⟨w.heap.size, 1, none⟩ (.int .i64 c') = sem w s c' m l := by simp [sem, go_sem]
theorem set2 (m' : Int) : (sem w s c m l).setCell ⟨w.heap.size, 2, none⟩ (.int .i32 m') = sem w s c m' l := by simp [sem, go_sem]
theorem set4 (l' : Int) : (sem w s c m l).setCell ⟨w.heap.size, 4, none⟩ (.int .i64 l') = sem w s c m l' := by simp [sem, go_sem]
theorem sem_grown (k : Nat) : Grown w ((sem w s c m l).drewN k) := (Grown.refl w).alloc _ _
end

set_option maxHeartbeats 400000 in
theorem lock_sem (w : World) (s c c' l : Int) (k : Nat) (H : Hid (bits .or .i64 c top = c')) :
    Calls Ybaf.prog 13 #[.pointer (some ⟨w.heap.size, 0, none⟩)] ((sem w s c 0 l).drewN k) fun e w' => e = .returned (.tuple #[]) ∧ w' = (sem w s c' 1 l).drewN k := by
  have sd := setCell_drewN
  have s1 := set1 w s
  have s2 := set2 w s
  go_enter Ybaf.func13, Ybaf.ntmps13
  go_wp2_with (first
    | (go_at_call 30; refine (lock_free muLib ⟨w.heap.size, 2, none⟩ _ (by exact sem2 w s c 0 l) (by exact semf w s c 0 l 2)).mono ?_; rintro e w' ⟨rfl, rfl⟩)
    | (go_at_call 31; refine (or_any w.heap.size 1 c _ _ (by exact sem1 w s c 1 l) (by exact semf w s c 1 l 1)).mono ?_; rintro e w' ⟨rfl, rfl⟩))
  go_end0
  refine ⟨rfl, ?_⟩
  rw [← H.out]
  rfl

/-! ### unlock: whatever the world, its cells as facts -/

set_option maxHeartbeats 400000 in
/-- 'unlock' where the limit is at the size: the top bit is cleared too. -/
theorem unlock_eq (b : Nat) (s c c' : Int) (w : World) (h0 : w.cell? ⟨b, 0, none⟩ = some (.int .i64 s)) (h1 : w.cell? ⟨b, 1, none⟩ = some (.int .i64 c)) (h2 : w.cell? ⟨b, 2, none⟩ = some (.int .i32 1))
    (h4 : w.cell? ⟨b, 4, none⟩ = some (.int .i64 s)) (h5 : w.cell? ⟨b, 5, none⟩ = some (.pointer none)) (f1 : w.frozen? ⟨b, 1, none⟩ = false) (f2 : w.frozen? ⟨b, 2, none⟩ = false) (H : Hid (bits .and .i64 c rest = c')) :
    Calls Ybaf.prog 15 #[.pointer (some ⟨b, 0, none⟩)] w fun e w' => e = .returned (.tuple #[]) ∧ ∃ k, w' = ((w.setCell ⟨b, 1, none⟩ (.int .i64 c')).setCell ⟨b, 2, none⟩ (.int .i32 0)).drewN k := by
  have sd := setCell_drewN
  go_enter Ybaf.func15, Ybaf.ntmps15
  go_wp2_with fail
  go_quiet ((go_at_call 25; exact Calls.quiet_of_same (empty_at b 5 _ h5)))
  go_wp2_with (first
    | (go_at_call 33; refine (and_any b 1 c _ _ (by exact h1) (by exact f1)).mono ?_; rintro e w' ⟨rfl, rfl⟩))
  go_wp2_with (first
    | (go_at_call 18; refine (unlock_held muLib ⟨b, 2, none⟩ _ (by simp [go_sem, h2]) (by simp [go_sem, f2])).mono ?_; rintro e w' ⟨rfl, rfl⟩))
  go_end0
  exact ⟨rfl, nq, by rw [← H.out]; rfl⟩

set_option maxHeartbeats 400000 in
/-- 'unlock' where the limit is not at the size: the top bit stays. -/
theorem unlock_ne (b : Nat) (s l : Int) (w : World) (h0 : w.cell? ⟨b, 0, none⟩ = some (.int .i64 s)) (h2 : w.cell? ⟨b, 2, none⟩ = some (.int .i32 1))
    (h4 : w.cell? ⟨b, 4, none⟩ = some (.int .i64 l)) (h5 : w.cell? ⟨b, 5, none⟩ = some (.pointer none)) (f2 : w.frozen? ⟨b, 2, none⟩ = false) (hne : (l == s) = false) :
    Calls Ybaf.prog 15 #[.pointer (some ⟨b, 0, none⟩)] w fun e w' => e = .returned (.tuple #[]) ∧ ∃ k, w' = (w.setCell ⟨b, 2, none⟩ (.int .i32 0)).drewN k := by
  have sd := setCell_drewN
  go_enter Ybaf.func15, Ybaf.ntmps15
  go_wp2_with fail
  go_quiet ((go_at_call 25; exact Calls.quiet_of_same (empty_at b 5 _ h5)))
  go_wp2_with (first
    | (go_at_call 18; refine (unlock_held muLib ⟨b, 2, none⟩ _ (by exact h2) (by exact f2)).mono ?_; rintro e w' ⟨rfl, rfl⟩))
  go_end0
  exact ⟨rfl, nq, rfl⟩

theorem unlock_open (w : World) (s c c' : Int) (k : Nat) (H : Hid (bits .and .i64 c rest = c')) :
    Calls Ybaf.prog 15 #[.pointer (some ⟨w.heap.size, 0, none⟩)] ((sem w s c 1 s).drewN k) fun e w' => e = .returned (.tuple #[]) ∧ ∃ k', w' = (sem w s c' 0 s).drewN k' := by
  refine (unlock_eq w.heap.size s c c' ((sem w s c 1 s).drewN k) (sem0 ..) (sem1 ..) (sem2 ..) (sem4 ..) (sem5 ..) (semf ..) (semf ..) H).mono ?_
  rintro e w' ⟨rfl, n, rfl⟩
  exact ⟨rfl, k + n, by simp [setCell_drewN, set1, set2]⟩

theorem unlock_shut (w : World) (s c l : Int) (k : Nat) (hne : (l == s) = false) :
    Calls Ybaf.prog 15 #[.pointer (some ⟨w.heap.size, 0, none⟩)] ((sem w s c 1 l).drewN k) fun e w' => e = .returned (.tuple #[]) ∧ ∃ k', w' = (sem w s c 0 l).drewN k' := by
  refine (unlock_ne w.heap.size s l ((sem w s c 1 l).drewN k) (sem0 ..) (sem2 ..) (sem4 ..) (sem5 ..) (semf ..) hne).mono ?_
  rintro e w' ⟨rfl, n, rfl⟩
  exact ⟨rfl, k + n, by simp [setCell_drewN, set2]⟩

/-! ### NewWeighted, TryAcquire -/

theorem new_sem (n : Int) (w : World) (h0 : 0 ≤ n) :
    Calls Ybaf.prog 8 #[.int .i64 n] w fun e w' => e = .returned (.pointer (some ⟨w.heap.size, 0, none⟩)) ∧ ∃ k, w' = (sem w n 0 0 n).drewN k :=
  (new_any n w h0).mono fun _ _ ⟨he, hw⟩ => ⟨he, 0, hw⟩

set_option maxHeartbeats 400000 in
/-- The lock-free way: the word is not locked and n fits beside it. -/
theorem try_free (w : World) (s c c' l n : Int) (k : Nat) (n0 : 0 ≤ n) (c0 : 0 ≤ c) (c1 : c ≤ s) (s1 : s ≤ 9223372036854775807) (hn : n ≤ s - c) (H : Hid (c + n = c')) :
    Calls Ybaf.prog 9 #[.pointer (some ⟨w.heap.size, 0, none⟩), .int .i64 n] ((sem w s c 0 l).drewN k) fun e w' => e = .returned (.bool true) ∧ w' = (sem w s c' 0 l).drewN k := by
  have sd := setCell_drewN
  have t1 := set1 w s
  go_enter Ybaf.func9, Ybaf.ntmps9
  go_wp2_with (first
    | (go_at_call 23; refine (weight_ok n _ n0).mono ?_; rintro e w' ⟨rfl, rfl⟩)
    | (go_at_call 24; refine (take_yes w.heap.size 0 s c n _ (by exact sem0 ..) (by exact sem1 ..) (by exact semf ..) c0 c1 s1 hn n0).mono ?_; rintro e w' ⟨rfl, rfl⟩))
  go_ret
  exact ⟨rfl, by rw [← H.out]⟩

end Go.Proofs.YbulkrjsFmt
