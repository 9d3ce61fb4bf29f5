/-
  CONTRACTS over the dump ybulkrjsfmt: the atomic word's methods, held, InUse, Size, empty, fits, admits, checkWeight, takeFree, giveFree.
-/
import Derived.Test.YbulkrjsFmtBase
import Derived.Test.YbulkrjsFmtBits
namespace Go.Proofs.YbulkrjsFmt
open Go.MuLone Go.RowKit Go.Proofs.YbulkrjsFmt.Bits

/-! ### sync/atomic's entries for 'Or' and 'And' in the run of one goroutine -/

theorem run_call_or {P : Program} {f : FuncId} {fn : Func} (hf : P.funcs[f]? = some fn) (hname : (fn.name == "runtime.NumGoroutine") = false) (hb : fn.body.isNone = true) (hn : Extern.findNext fn = none) (k : IntKind)
    (he : Extern.find fn = some (Extern.Atomic.update (Op.intBits .or) k false)) {a : Addr} {x y : Int} {w : World} (hc : w.cell? a = some (.int k x)) (hz : w.frozen? a = false) :
    (callFunc f #[.pointer (some a), .int k y]).run P w = .ok (.value (.int k x)) (w.setCell a (.int k (bits .or k x y))) := by
  rw [run_callFunc_extern hf hname hb hn he]
  change (Sem.run P (do
    let a' ← asAddr (.pointer (some a))
    let old ← Extern.Atomic.read (.int k) a'
    let new ← Op.intBits .or k (← asInt old) (← asInt (.int k y))
    store a' new .atomic
    pure (if false = true then new else old)) w).andThen _ = _
  simp [Extern.Atomic.read, asAddr, asInt, asIntOf, hc, hz, intBits_or, run_store P w a (.int k (bits .or k x y)) .atomic rfl, Result.andThen]

theorem run_call_and {P : Program} {f : FuncId} {fn : Func} (hf : P.funcs[f]? = some fn) (hname : (fn.name == "runtime.NumGoroutine") = false) (hb : fn.body.isNone = true) (hn : Extern.findNext fn = none) (k : IntKind)
    (he : Extern.find fn = some (Extern.Atomic.update (Op.intBits .and) k false)) {a : Addr} {x y : Int} {w : World} (hc : w.cell? a = some (.int k x)) (hz : w.frozen? a = false) :
    (callFunc f #[.pointer (some a), .int k y]).run P w = .ok (.value (.int k x)) (w.setCell a (.int k (bits .and k x y))) := by
  rw [run_callFunc_extern hf hname hb hn he]
  change (Sem.run P (do
    let a' ← asAddr (.pointer (some a))
    let old ← Extern.Atomic.read (.int k) a'
    let new ← Op.intBits .and k (← asInt old) (← asInt (.int k y))
    store a' new .atomic
    pure (if false = true then new else old)) w).andThen _ = _
  simp [Extern.Atomic.read, asAddr, asInt, asIntOf, hc, hz, intBits_and, run_store P w a (.int k (bits .and k x y)) .atomic rfl, Result.andThen]

/-! ### the atomic word's methods -/

set_option maxHeartbeats 400000 in
theorem load_any (b off : Nat) (c : Int) (w : World) (hc : w.cell? ⟨b, off, none⟩ = some (.int .i64 c)) :
    Calls Ybaf.prog 14 #[.pointer (some ⟨b, off, none⟩)] w fun e w' => e = .returned (.int .i64 c) ∧ w' = w := by
  have hl := run_call_load (P := Ybaf.prog) Ybaf.func32 (by kernel_rfl) (by kernel_rfl) (by kernel_rfl) .i64 (by kernel_rfl) hc
  go_enter Ybaf.func14, Ybaf.ntmps14
  go_wp2
  go_ret
  exact ⟨rfl, rfl⟩

set_option maxHeartbeats 400000 in
theorem cas_any (b off : Nat) (c y : Int) (w : World) (hc : w.cell? ⟨b, off, none⟩ = some (.int .i64 c)) (hz : w.frozen? ⟨b, off, none⟩ = false) :
    Calls Ybaf.prog 28 #[.pointer (some ⟨b, off, none⟩), .int .i64 c, .int .i64 y] w fun e w' => e = .returned (.bool true) ∧ w' = w.setCell ⟨b, off, none⟩ (.int .i64 y) := by
  have hl := run_call_cas_hit (P := Ybaf.prog) Ybaf.func39 (by kernel_rfl) (by kernel_rfl) (by kernel_rfl) .i64 (by kernel_rfl) (y := y) hc hz
  go_enter Ybaf.func28, Ybaf.ntmps28
  go_wp2
  go_ret
  exact ⟨rfl, rfl⟩

set_option maxHeartbeats 400000 in
theorem or_any (b off : Nat) (c y : Int) (w : World) (hc : w.cell? ⟨b, off, none⟩ = some (.int .i64 c)) (hz : w.frozen? ⟨b, off, none⟩ = false) :
    Calls Ybaf.prog 31 #[.pointer (some ⟨b, off, none⟩), .int .i64 y] w fun e w' => e = .returned (.int .i64 c) ∧ w' = w.setCell ⟨b, off, none⟩ (.int .i64 (bits .or .i64 c y)) := by
  have hl := run_call_or (P := Ybaf.prog) Ybaf.func41 (by kernel_rfl) (by kernel_rfl) (by kernel_rfl) .i64 (by kernel_rfl) (y := y) hc hz
  go_enter Ybaf.func31, Ybaf.ntmps31
  go_wp2
  go_ret
  exact ⟨rfl, rfl⟩

set_option maxHeartbeats 400000 in
theorem and_any (b off : Nat) (c y : Int) (w : World) (hc : w.cell? ⟨b, off, none⟩ = some (.int .i64 c)) (hz : w.frozen? ⟨b, off, none⟩ = false) :
    Calls Ybaf.prog 33 #[.pointer (some ⟨b, off, none⟩), .int .i64 y] w fun e w' => e = .returned (.int .i64 c) ∧ w' = w.setCell ⟨b, off, none⟩ (.int .i64 (bits .and .i64 c y)) := by
  have hl := run_call_and (P := Ybaf.prog) Ybaf.func42 (by kernel_rfl) (by kernel_rfl) (by kernel_rfl) .i64 (by kernel_rfl) (y := y) hc hz
  go_enter Ybaf.func33, Ybaf.ntmps33
  go_wp2
  go_ret
  exact ⟨rfl, rfl⟩

set_option maxHeartbeats 400000 in
theorem add_any (b off : Nat) (c y : Int) (w : World) (hc : w.cell? ⟨b, off, none⟩ = some (.int .i64 c)) (hz : w.frozen? ⟨b, off, none⟩ = false) :
    Calls Ybaf.prog 38 #[.pointer (some ⟨b, off, none⟩), .int .i64 y] w fun e w' => e = .returned (.int .i64 (wrap64 (c + y))) ∧ w' = w.setCell ⟨b, off, none⟩ (.int .i64 (wrap64 (c + y))) := by
  have hl := run_call_add (P := Ybaf.prog) Ybaf.func52 (by kernel_rfl) (by kernel_rfl) (by kernel_rfl) .i64 (by kernel_rfl) (y := y) (s := wrap64 (c + y)) hc hz (by simp [go_sem, IntKind.wrap_i64, wrap64])
  go_enter Ybaf.func38, Ybaf.ntmps38
  go_wp2
  go_ret
  exact ⟨rfl, rfl⟩

/-! ### what only reads -/

set_option maxHeartbeats 400000 in
theorem held_at (b off : Nat) (c h : Int) (w : World) (hc : w.cell? ⟨b, off + 1, none⟩ = some (.int .i64 c)) (H : Hid (bits .andNot .i64 c top = h)) :
    Calls Ybaf.prog 29 #[.pointer (some ⟨b, off, none⟩)] w fun e w' => e = .returned (.int .i64 h) ∧ w' = w := by
  go_enter Ybaf.func29, Ybaf.ntmps29
  go_wp2_with (go_at_call 14; refine (load_any b (off + 1) c _ hc).mono ?_; rintro e w' ⟨rfl, rfl⟩)
  go_ret
  exact ⟨by rw [← H.out]; rfl, rfl⟩

set_option maxHeartbeats 400000 in
theorem inuse_at (b off : Nat) (c h : Int) (w : World) (hc : w.cell? ⟨b, off + 1, none⟩ = some (.int .i64 c)) (H : Hid (bits .andNot .i64 c top = h)) :
    Calls Ybaf.prog 11 #[.pointer (some ⟨b, off, none⟩)] w fun e w' => e = .returned (.int .i64 h) ∧ w' = w := by
  go_enter Ybaf.func11, Ybaf.ntmps11
  go_wp2_with (go_at_call 29; refine (held_at b off c h _ hc H).mono ?_; rintro e w' ⟨rfl, rfl⟩)
  go_ret
  exact ⟨rfl, rfl⟩

set_option maxHeartbeats 400000 in
theorem size_at (b off : Nat) (s : Int) (w : World) (hc : w.cell? ⟨b, off, none⟩ = some (.int .i64 s)) :
    Calls Ybaf.prog 12 #[.pointer (some ⟨b, off, none⟩)] w fun e w' => e = .returned (.int .i64 s) ∧ w' = w := by
  go_enter Ybaf.func12, Ybaf.ntmps12
  go_wp2
  go_ret
  exact ⟨rfl, rfl⟩

set_option maxHeartbeats 400000 in
theorem empty_at (b off : Nat) (w : World) (hc : w.cell? ⟨b, off, none⟩ = some (.pointer none)) :
    Calls Ybaf.prog 25 #[.pointer (some ⟨b, off, none⟩)] w fun e w' => e = .returned (.bool true) ∧ w' = w := by
  go_enter Ybaf.func25, Ybaf.ntmps25
  go_wp2
  go_ret
  exact ⟨rfl, rfl⟩

set_option maxHeartbeats 400000 in
theorem fits_at (b off : Nat) (c h l n : Int) (w : World) (hc : w.cell? ⟨b, off + 1, none⟩ = some (.int .i64 c)) (hl : w.cell? ⟨b, off + 4, none⟩ = some (.int .i64 l)) (H : Hid (bits .andNot .i64 c top = h))
    (h0 : 0 ≤ h) (h1 : h ≤ 9223372036854775807) (l0 : 0 ≤ l) (l1 : l ≤ 9223372036854775807) :
    Calls Ybaf.prog 26 #[.pointer (some ⟨b, off, none⟩), .int .i64 n] w fun e w' => e = .returned (.bool (decide (n ≤ l - h))) ∧ ∃ k, w' = w.drewN k := by
  go_enter Ybaf.func26, Ybaf.ntmps26
  go_wp2_with fail
  go_quiet ((go_at_call 29; exact Calls.quiet_of_same (held_at b off c h _ hc H)))
  go_wp2
  go_ret
  exact ⟨rfl, nq, rfl⟩

set_option maxHeartbeats 400000 in
theorem admits_drain (b off : Nat) (c h n : Int) (w : World) (hc : w.cell? ⟨b, off + 1, none⟩ = some (.int .i64 c)) (H : Hid (bits .andNot .i64 c top = h)) :
    Calls Ybaf.prog 21 #[.pointer (some ⟨b, off, none⟩), .int .i64 n, .bool true] w fun e w' => e = .returned (.bool (h == 0)) ∧ w' = w := by
  go_enter Ybaf.func21, Ybaf.ntmps21
  go_wp2_with (go_at_call 29; refine (held_at b off c h _ hc H).mono ?_; rintro e w' ⟨rfl, rfl⟩)
  go_ret
  exact ⟨rfl, rfl⟩

set_option maxHeartbeats 400000 in
theorem admits_fits (b off : Nat) (c h l n : Int) (w : World) (hc : w.cell? ⟨b, off + 1, none⟩ = some (.int .i64 c)) (hl : w.cell? ⟨b, off + 4, none⟩ = some (.int .i64 l)) (H : Hid (bits .andNot .i64 c top = h))
    (h0 : 0 ≤ h) (h1 : h ≤ 9223372036854775807) (l0 : 0 ≤ l) (l1 : l ≤ 9223372036854775807) :
    Calls Ybaf.prog 21 #[.pointer (some ⟨b, off, none⟩), .int .i64 n, .bool false] w fun e w' => e = .returned (.bool (decide (n ≤ l - h))) ∧ ∃ k, w' = w.drewN k := by
  go_enter Ybaf.func21, Ybaf.ntmps21
  go_wp2_with (go_at_call 26; refine (fits_at b off c h l n _ hc hl H h0 h1 l0 l1).mono ?_; rintro e w' ⟨rfl, k, rfl⟩)
  go_ret
  exact ⟨rfl, k, rfl⟩

set_option maxHeartbeats 400000 in
theorem weight_ok (n : Int) (w : World) (h0 : 0 ≤ n) :
    Calls Ybaf.prog 23 #[.int .i64 n] w fun e w' => e = .returned (.tuple #[]) ∧ w' = w := by
  go_enter Ybaf.func23, Ybaf.ntmps23
  go_wp2
  go_end0
  exact ⟨rfl, rfl⟩

/-! ### the two lock-free ways -/

set_option maxHeartbeats 400000 in
theorem take_yes (b off : Nat) (s c n : Int) (w : World) (h0 : w.cell? ⟨b, off, none⟩ = some (.int .i64 s)) (hc : w.cell? ⟨b, off + 1, none⟩ = some (.int .i64 c)) (hz : w.frozen? ⟨b, off + 1, none⟩ = false)
    (c0 : 0 ≤ c) (c1 : c ≤ s) (s1 : s ≤ 9223372036854775807) (hn : n ≤ s - c) (n0 : 0 ≤ n) :
    Calls Ybaf.prog 24 #[.pointer (some ⟨b, off, none⟩), .int .i64 n] w fun e w' => e = .returned (.bool true) ∧ w' = w.setCell ⟨b, off + 1, none⟩ (.int .i64 (c + n)) := by
  go_enter Ybaf.func24, Ybaf.ntmps24
  go_wp2_with (first
    | (go_at_call 14; refine (load_any b (off + 1) c _ hc).mono ?_; rintro e w' ⟨rfl, rfl⟩)
    | (go_at_call 28; refine (cas_any b (off + 1) c (c + n) _ hc hz).mono ?_; rintro e w' ⟨rfl, rfl⟩))
  go_ret
  exact ⟨rfl, rfl⟩

set_option maxHeartbeats 400000 in
theorem take_no (b off : Nat) (s c n : Int) (w : World) (h0 : w.cell? ⟨b, off, none⟩ = some (.int .i64 s)) (hc : w.cell? ⟨b, off + 1, none⟩ = some (.int .i64 c))
    (c0 : 0 ≤ c) (c1 : c ≤ s) (s1 : s ≤ 9223372036854775807) (hn : s - c < n) :
    Calls Ybaf.prog 24 #[.pointer (some ⟨b, off, none⟩), .int .i64 n] w fun e w' => e = .returned (.bool false) ∧ w' = w := by
  go_enter Ybaf.func24, Ybaf.ntmps24
  go_wp2_with (first
    | (go_at_call 14; refine (load_any b (off + 1) c _ hc).mono ?_; rintro e w' ⟨rfl, rfl⟩))
  go_ret
  exact ⟨rfl, rfl⟩

set_option maxHeartbeats 400000 in
theorem take_locked (b off : Nat) (s c n : Int) (w : World) (h0 : w.cell? ⟨b, off, none⟩ = some (.int .i64 s)) (hc : w.cell? ⟨b, off + 1, none⟩ = some (.int .i64 c))
    (c0 : c < 0) :
    Calls Ybaf.prog 24 #[.pointer (some ⟨b, off, none⟩), .int .i64 n] w fun e w' => e = .returned (.bool false) ∧ w' = w := by
  go_enter Ybaf.func24, Ybaf.ntmps24
  go_wp2_with (first
    | (go_at_call 14; refine (load_any b (off + 1) c _ hc).mono ?_; rintro e w' ⟨rfl, rfl⟩))
  go_ret
  exact ⟨rfl, rfl⟩

set_option maxHeartbeats 400000 in
theorem give_yes (b off : Nat) (c n : Int) (w : World) (hc : w.cell? ⟨b, off + 1, none⟩ = some (.int .i64 c)) (hz : w.frozen? ⟨b, off + 1, none⟩ = false)
    (hn : n ≤ c) (_lo : -9223372036854775808 ≤ c - n) (hi : c - n ≤ 9223372036854775807) :
    Calls Ybaf.prog 10 #[.pointer (some ⟨b, off, none⟩), .int .i64 n] w fun e w' => e = .returned (.bool true) ∧ w' = w.setCell ⟨b, off + 1, none⟩ (.int .i64 (c - n)) := by
  go_enter Ybaf.func10, Ybaf.ntmps10
  go_wp2_with (first
    | (go_at_call 14; refine (load_any b (off + 1) c _ hc).mono ?_; rintro e w' ⟨rfl, rfl⟩)
    | (go_at_call 28; refine (cas_any b (off + 1) c (c - n) _ hc hz).mono ?_; rintro e w' ⟨rfl, rfl⟩))
  go_ret
  exact ⟨rfl, rfl⟩

set_option maxHeartbeats 400000 in
theorem give_no (b off : Nat) (c n : Int) (w : World) (hc : w.cell? ⟨b, off + 1, none⟩ = some (.int .i64 c)) (hn : c < n) :
    Calls Ybaf.prog 10 #[.pointer (some ⟨b, off, none⟩), .int .i64 n] w fun e w' => e = .returned (.bool false) ∧ w' = w := by
  go_enter Ybaf.func10, Ybaf.ntmps10
  go_wp2_with (first
    | (go_at_call 14; refine (load_any b (off + 1) c _ hc).mono ?_; rintro e w' ⟨rfl, rfl⟩))
  go_ret
  exact ⟨rfl, rfl⟩

end Go.Proofs.YbulkrjsFmt
