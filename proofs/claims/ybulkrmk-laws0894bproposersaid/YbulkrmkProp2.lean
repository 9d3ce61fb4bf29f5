/-
  CONTRACTS over the dump ybulkrmk: appendProposer, local at a proposer that has not run.
-/
import Derived.Test.YbulkrmkProp
namespace Go.Proofs.Ybulkrmk
open Go.RowKit

/-- 'uint64(z)' of an int. -/
def u64of (z : Int) : Nat := (z % 18446744073709551616).toNat
theorem u64of_lt (z : Int) : u64of z < 18446744073709551616 := by unfold u64of; omega
theorem u64of_eq (z : Int) : IntKind.u64.wrap z = ((u64of z : Nat) : Int) := by rw [IntKind.wrap_u64]; unfold u64of; omega

/-- What the law's state holds, as far as the road of a proposer reads it. -/
structure St (w : World) (sb pb qb n cq i : Nat) (z : Int) : Prop where
  s2 : w.cell? ⟨sb, 2, none⟩ = some (.slice (some ⟨pb, 0, none⟩) n n)
  s3 : w.cell? ⟨sb, 3, none⟩ = some (.slice (some ⟨qb, 0, none⟩) n cq)
  q : w.cell? ⟨qb, i, none⟩ = some (.int .i64 z)
  zero : Zero w pb (i * 11)

theorem St.step {w w' : World} {v v' : Value} {l' : List Int} {sb pb qb n cq i : Nat} {z : Int} (h : St w sb pb qb n cq i z) (hst : Step w v w' v' l') (h1 : v.ownBlock ≠ some sb) (h2 : v.ownBlock ≠ some pb) (h3 : v.ownBlock ≠ some qb) : St w' sb pb qb n cq i z :=
  ⟨hst.cell h.s2 h1, hst.cell h.s3 h1, hst.cell h.q h3, h.zero.step hst h2⟩

set_option maxHeartbeats 1600000 in
theorem appendProposer_zero (x : Value) (sb pb qb n cq i : Nat) (v : Value) (l : List Int) (w : World) (hS : St w sb pb qb n cq i 0) (hi : i < n) (hown : Has w v l) (h1 : v.ownBlock ≠ some sb) (h2 : v.ownBlock ≠ some pb) (h3 : v.ownBlock ≠ some qb) (hlim : l.length ≤ 70000) :
    Calls Yba.prog 12 #[x, v, .pointer (some ⟨sb, 0, none⟩), .int .i64 i] w fun e w' => ∃ v', e = .returned v' ∧ Step w v w' v' (l ++ uvz (u64of 0)) := by
  obtain ⟨s2, s3, q, hz⟩ := id hS
  go_enter Yba.func12, Yba.ntmps12
  go_wp2_with fail
  refine (uvarint_step 0 (by omega) v l w hown (by omega)).mono ?_
  rintro e w1 ⟨v1, rfl, T1⟩
  have hS1 := hS.step T1 h1 h2 h3
  clear s2 s3 q hz
  obtain ⟨s2, s3, q, hz⟩ := id hS1
  go_wp2_with (go_at_call 18; refine (outcome_no pb (i * 11) w1 hz.c10).mono ?_; rintro e w' ⟨rfl, hw⟩; replace hw := hw.symm; subst hw)
  go_ret
  exact ⟨v1, rfl, T1⟩

set_option maxHeartbeats 1600000 in
theorem appendProposer_run (x : Value) (sb pb qb n cq i : Nat) (z : Int) (v : Value) (l : List Int) (w : World) (hS : St w sb pb qb n cq i z) (hz0 : (z == 0) = false) (hi : i < n) (hown : Has w v l) (h1 : v.ownBlock ≠ some sb) (h2 : v.ownBlock ≠ some pb) (h3 : v.ownBlock ≠ some qb) (hlim : l.length ≤ 70000) :
    Calls Yba.prog 12 #[x, v, .pointer (some ⟨sb, 0, none⟩), .int .i64 i] w fun e w' => ∃ v', e = .returned v' ∧ Step w v w' v' (l ++ (uvz (u64of z) ++ zst)) := by
  have hu := u64of_lt z
  have hl10 := uvz_length hu
  obtain ⟨s2, s3, q, hz⟩ := id hS
  go_enter Yba.func12, Yba.ntmps12
  go_wp2_with fail
  rw [u64of_eq]
  refine (uvarint_step (u64of z) hu v l w hown (by omega)).mono ?_
  rintro e w1 ⟨v1, rfl, T1⟩
  have hS1 := hS.step T1 h1 h2 h3
  have k2 := T1.away hS.zero.lt h2
  clear s2 s3 q hz
  obtain ⟨s2, s3, q, hz⟩ := id hS1
  go_wp2_with (go_at_call 18; refine (outcome_no pb (i * 11) w1 hz.c10).mono ?_; rintro e w' ⟨rfl, hw⟩; replace hw := hw.symm; subst hw)
  refine (state_zero pb (i * 11) v1 (l ++ uvz (u64of z)) w1 hz T1.own k2 (by simp; omega)).mono ?_
  rintro e w2 ⟨v2, rfl, T2⟩
  go_wp2
  go_ret
  refine ⟨v2, rfl, ?_⟩
  simpa using T1.trans T2

/-- What is appended for a ballot that started with value z: its state once it has started. -/
def tail (z : Int) : List Int := if z = 0 then [] else zst

theorem appendProposer_any (x : Value) (sb pb qb n cq i : Nat) (z : Int) (v : Value) (l : List Int) (w : World) (hS : St w sb pb qb n cq i z) (hi : i < n) (hown : Has w v l) (h1 : v.ownBlock ≠ some sb) (h2 : v.ownBlock ≠ some pb) (h3 : v.ownBlock ≠ some qb) (hlim : l.length ≤ 70000) :
    Calls Yba.prog 12 #[x, v, .pointer (some ⟨sb, 0, none⟩), .int .i64 i] w fun e w' => ∃ v', e = .returned v' ∧ Step w v w' v' (l ++ (uvz (u64of z) ++ tail z)) := by
  by_cases hz : z = 0
  · subst hz
    simp only [tail, if_true, List.append_nil]
    exact appendProposer_zero x sb pb qb n cq i v l w hS hi hown h1 h2 h3 hlim
  · rw [show tail z = zst from if_neg hz]
    exact appendProposer_run x sb pb qb n cq i z v l w hS (by simpa using hz) hi hown h1 h2 h3 hlim

theorem St.alloc {w : World} {sb pb qb n cq i : Nat} {z : Int} (h : St w sb pb qb n cq i z) (o : Obj) : St (w.alloc o) sb pb qb n cq i z :=
  h.step (v := .slice none 0 0) (v' := .slice none 0 0) (l' := []) ((Step.refl (Has.nil w)).alloc o) (by simp [Value.ownBlock]) (by simp [Value.ownBlock]) (by simp [Value.ownBlock])

set_option maxHeartbeats 800000 in
theorem local_prop (x : Value) (sb pb qb n cq i : Nat) (z : Int) (v : Value) (l : List Int) (w : World) (hS : St w sb pb qb n cq i z) (hi : i < n) (hown : Has w v l) (h1 : v.ownBlock ≠ some sb) (h2 : v.ownBlock ≠ some pb) (h3 : v.ownBlock ≠ some qb) (hlim : l.length ≤ 70000) :
    Calls Yba.prog 6 #[x, v, .pointer (some ⟨sb, 0, none⟩), .agg #[.int .i64 0, .int .i64 i]] w fun e w' => ∃ v', e = .returned v' ∧ Step w v w' v' (l ++ (uvz (u64of z) ++ tail z)) := by
  go_enter Yba.func6, Yba.ntmps6
  go_wp2_with fail
  refine (appendProposer_any x sb pb qb n cq i z v l _ (hS.alloc _) hi (hown.alloc _) h1 h2 h3 hlim).mono ?_
  rintro e w1 ⟨v1, rfl, T1⟩
  go_wp2
  go_ret
  exact ⟨v1, rfl, T1.ofAlloc⟩

end Go.Proofs.Ybulkrmk
