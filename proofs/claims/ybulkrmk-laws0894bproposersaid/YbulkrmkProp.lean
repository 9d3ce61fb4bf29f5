/-
  CONTRACTS over the dump ybulkrmk: AppendState of a proposer that holds its zero value; appendProposer; local at a proposer.
-/
import Derived.Test.YbulkrmkParts
namespace Go.Proofs.Ybulkrmk
open Go.RowKit

/-- A proposer that holds its zero value lies there. -/
structure Zero (w : World) (b off : Nat) : Prop where
  c0 : w.cell? ⟨b, off, none⟩ = some (.string ⟨#[]⟩)
  c1 : w.cell? ⟨b, off + 1, none⟩ = some (.int .u64 0)
  c2 : w.cell? ⟨b, off + 2, none⟩ = some (.int .i64 0)
  c3 : w.cell? ⟨b, off + 3, none⟩ = some (.int .i64 0)
  c4 : w.cell? ⟨b, off + 4, none⟩ = some (.slice none 0 0)
  c5 : w.cell? ⟨b, off + 5, none⟩ = some (.bool false)
  c6 : w.cell? ⟨b, off + 6, none⟩ = some (.int .u64 0)
  c7 : w.cell? ⟨b, off + 7, none⟩ = some (.int .u64 0)
  c8 : w.cell? ⟨b, off + 8, none⟩ = some (.int .i64 0)
  c9 : w.cell? ⟨b, off + 9, none⟩ = some (.slice none 0 0)
  c10 : w.cell? ⟨b, off + 10, none⟩ = some (.int .u8 0)

theorem Zero.lt {w : World} {b off : Nat} (h : Zero w b off) : b < w.heap.size := World.block_lt_of_cell? _ _ h.c0

theorem Zero.step {w w' : World} {v v' : Value} {l' : List Int} {b off : Nat} (h : Zero w b off) (hst : Step w v w' v' l') (hne : v.ownBlock ≠ some b) : Zero w' b off :=
  ⟨hst.cell h.c0 hne, hst.cell h.c1 hne, hst.cell h.c2 hne, hst.cell h.c3 hne, hst.cell h.c4 hne, hst.cell h.c5 hne, hst.cell h.c6 hne, hst.cell h.c7 hne, hst.cell h.c8 hne, hst.cell h.c9 hne, hst.cell h.c10 hne⟩

theorem uvz0 : uvz 0 = [0] := uvz_small (by omega)
theorem bal0 : bal 0 0 = [0, 0] := by unfold bal; rw [show Lib.zigzag 0 = 0 from rfl, uvz0]; rfl
theorem fld0 : fld (some []) = [1, 0] := by
  show 1 :: (uvz 0 ++ []) = _
  rw [uvz0]; rfl

theorem Step.ofDrew {w w' : World} {v v' : Value} {l' : List Int} (h : Step w.drew v w' v' l') : Step w v w' v' l' := ⟨h.own, ⟨h.grown.os, h.grown.tape, h.grown.output, h.grown.size, h.grown.block⟩, h.block⟩
theorem Has.drew {w : World} {v : Value} {l : List Int} (h : Has w v l) : Has w.drew v l := h

/-- What AppendState appends for it. -/
def zst : List Int := [1, 0, 0, 0, 0, 0, 0, 0, 0, 0, 0, 0]

set_option maxHeartbeats 1600000 in
theorem state_zero (b off : Nat) (v : Value) (l : List Int) (w : World) (hz : Zero w b off) (hown : Has w v l) (hne : v.ownBlock ≠ some b) (hlim : l.length ≤ 80000) :
    Calls Yba.prog 11 #[.pointer (some ⟨b, off, none⟩), v] w fun e w' => ∃ v', e = .returned v' ∧ Step w v w' v' (l ++ zst) := by
  have hcv := fun (wx : World) => run_bytes_of_string (P := Yba.prog) wx 9 23 5 ⟨#[]⟩ Yba.underlying9 Yba.underlying23 Yba.underlying5
  obtain ⟨c0, c1, c2, c3, c4, c5, c6, c7, c8, c9, c10⟩ := id hz
  go_enter Yba.func11, Yba.ntmps11
  go_wp2_with fail
  refine (appendBytes_some v l _ (Has.drew (hown.alloc _)) (by omega) ⟨w.heap.size, 0, none⟩ _ [] (by simp) (fun j hj => by simp at hj) (fun h => by simp at h)).mono ?_
  rintro e w1 ⟨v1, rfl, hst⟩
  have T1 : Step w v w1 v1 (l ++ [1, 0]) := by rw [← fld0]; exact Step.ofAlloc (Step.ofDrew hst)
  clear hst hcv
  have hz1 := hz.step T1 hne
  clear c0 c1 c2 c3 c4 c5 c6 c7 c8 c9 c10
  obtain ⟨c0, c1, c2, c3, c4, c5, c6, c7, c8, c9, c10⟩ := id hz1
  go_wp2_with fail
  refine (ballot_step v1 (l ++ [1, 0]) w1 T1.own (by simp; omega) 0 (by omega) 0 (by omega) (by omega)).mono ?_
  rintro e w2 ⟨v2, rfl, hst⟩
  have T2 : Step w v w2 v2 (l ++ [1, 0, 0, 0]) := by simpa [bal0] using T1.trans hst
  clear hst
  clear c0 c1 c2 c3 c4 c5 c6 c7 c8 c9 c10
  have hz2 := hz.step T2 hne
  obtain ⟨c0, c1, c2, c3, c4, c5, c6, c7, c8, c9, c10⟩ := id hz2
  go_wp2_with fail
  refine (uvarint_step 0 (by omega) v2 (l ++ [1, 0, 0, 0]) w2 T2.own (by simp; omega)).mono ?_
  rintro e w3 ⟨v3, rfl, hst⟩
  have T3 : Step w v w3 v3 (l ++ [1, 0, 0, 0, 0]) := by simpa [uvz0] using T2.trans hst
  clear hst
  clear c0 c1 c2 c3 c4 c5 c6 c7 c8 c9 c10
  have hz3 := hz.step T3 hne
  obtain ⟨c0, c1, c2, c3, c4, c5, c6, c7, c8, c9, c10⟩ := id hz3
  go_wp2_with fail
  refine (appendBytes_nil v3 (l ++ [1, 0, 0, 0, 0]) w3 T3.own (by simp; omega)).mono ?_
  rintro e w4 ⟨v4, rfl, hst⟩
  have T4 : Step w v w4 v4 (l ++ [1, 0, 0, 0, 0, 0]) := by simpa [fld] using T3.trans hst
  clear hst
  clear c0 c1 c2 c3 c4 c5 c6 c7 c8 c9 c10
  have hz4 := hz.step T4 hne
  obtain ⟨c0, c1, c2, c3, c4, c5, c6, c7, c8, c9, c10⟩ := id hz4
  go_wp2_with (first | (go_at_call 17; refine (boolByte_no _).mono ?_; rintro e w' ⟨rfl, hw⟩; replace hw := hw.symm; subst hw) | (at_builtin; refine wpList_append_step rfl _ _ rfl _ (l ++ [1, 0, 0, 0, 0, 0]) rfl (T4.own.alloc _) (some ⟨w4.heap.size, 0, none⟩) 1 1 [0] rfl rfl ?g1 ?g2 ?_))
  case g1 => exact one_new _ _ _
  case g2 => simp; omega
  intro v5 w5 hst
  have T5 : Step w v w5 v5 (l ++ [1, 0, 0, 0, 0, 0, 0]) := by simpa using T4.trans hst.ofAlloc
  clear hst
  clear c0 c1 c2 c3 c4 c5 c6 c7 c8 c9 c10
  have hz5 := hz.step T5 hne
  obtain ⟨c0, c1, c2, c3, c4, c5, c6, c7, c8, c9, c10⟩ := id hz5
  go_wp2_with fail
  refine (uvarint_step 0 (by omega) v5 (l ++ [1, 0, 0, 0, 0, 0, 0]) w5 T5.own (by simp; omega)).mono ?_
  rintro e w6 ⟨v6, rfl, hst⟩
  have T6 : Step w v w6 v6 (l ++ [1, 0, 0, 0, 0, 0, 0, 0]) := by simpa [uvz0] using T5.trans hst
  clear hst
  clear c0 c1 c2 c3 c4 c5 c6 c7 c8 c9 c10
  have hz6 := hz.step T6 hne
  obtain ⟨c0, c1, c2, c3, c4, c5, c6, c7, c8, c9, c10⟩ := id hz6
  go_wp2_with fail
  refine (ballot_step v6 (l ++ [1, 0, 0, 0, 0, 0, 0, 0]) w6 T6.own (by simp; omega) 0 (by omega) 0 (by omega) (by omega)).mono ?_
  rintro e w7 ⟨v7, rfl, hst⟩
  have T7 : Step w v w7 v7 (l ++ [1, 0, 0, 0, 0, 0, 0, 0, 0, 0]) := by simpa [bal0] using T6.trans hst
  clear hst
  clear c0 c1 c2 c3 c4 c5 c6 c7 c8 c9 c10
  have hz7 := hz.step T7 hne
  obtain ⟨c0, c1, c2, c3, c4, c5, c6, c7, c8, c9, c10⟩ := id hz7
  go_wp2_with fail
  refine (appendBytes_nil v7 (l ++ [1, 0, 0, 0, 0, 0, 0, 0, 0, 0]) w7 T7.own (by simp; omega)).mono ?_
  rintro e w8 ⟨v8, rfl, hst⟩
  have T8 : Step w v w8 v8 (l ++ [1, 0, 0, 0, 0, 0, 0, 0, 0, 0, 0]) := by simpa [fld] using T7.trans hst
  clear hst
  clear c0 c1 c2 c3 c4 c5 c6 c7 c8 c9 c10
  have hz8 := hz.step T8 hne
  obtain ⟨c0, c1, c2, c3, c4, c5, c6, c7, c8, c9, c10⟩ := id hz8
  go_wp2_with (first | (at_builtin; refine wpList_append_step rfl _ _ rfl _ (l ++ [1, 0, 0, 0, 0, 0, 0, 0, 0, 0, 0]) rfl (T8.own.alloc _) (some ⟨w8.heap.size, 0, none⟩) 1 1 [0] rfl rfl ?g1 ?g2 ?_))
  case g1 => exact one_new _ _ _
  case g2 => simp; omega
  intro v9 w9 hst
  have T9 : Step w v w9 v9 (l ++ [1, 0, 0, 0, 0, 0, 0, 0, 0, 0, 0, 0]) := by simpa using T8.trans hst.ofAlloc
  clear hst
  go_wp2
  go_ret
  exact ⟨v9, rfl, T9⟩

end Go.Proofs.Ybulkrmk
