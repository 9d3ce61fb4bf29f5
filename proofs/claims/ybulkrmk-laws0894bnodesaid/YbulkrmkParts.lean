/-
  CONTRACTS over the dump ybulkrmk: appendBytes, zzs0894bbytes, appendBallot, boolByte, Outcome.
-/
import Derived.Test.YbulkrmkVarint
import Derived.Lib.SliceRun
import Derived.BigQuiet
namespace Go.Proofs.Ybulkrmk
open Go.RowKit

/-- The encoding of a value that may be none. -/
def fld : Option (List Int) → List Int
  | none => [0]
  | some l => 1 :: (uvz l.length ++ l)

/-- The encoding of a ballot. -/
def bal (r : Nat) (n : Int) : List Int := uvz r ++ uvz (Lib.zigzag n)

/-- WHERE A SLICE's BYTES LIE: nil without bytes, or cells behind an address. -/
def Lies (w : World) (ao : Option Addr) (news : List Int) : Prop := ∀ j, j < news.length → ∃ ad, ao = some ad ∧ w.cell? (ad.add j) = some (.int .u8 (news.getD j 0))

/-- The slice lies elsewhere than v. -/
def Apart (v : Value) (ao : Option Addr) (news : List Int) : Prop := 0 < news.length → ∀ ad, ao = some ad → v.ownBlock ≠ some ad.block

theorem add_block (a : Addr) (j : Nat) : (a.add j).block = a.block := by
  unfold Addr.add
  split <;> rfl

theorem Lies.step {w w' : World} {v v' : Value} {l' : List Int} {ao : Option Addr} {news : List Int} (h : Lies w ao news) (hst : Step w v w' v' l') (ha : Apart v ao news) : Lies w' ao news := fun j hj => by
  obtain ⟨ad, rfl, hc⟩ := h j hj
  exact ⟨ad, rfl, hst.cell hc (by rw [add_block]; exact ha (by omega) ad rfl)⟩

theorem Apart.step {w w' : World} {v v' : Value} {l' : List Int} {ao : Option Addr} {news : List Int} (ha : Apart v ao news) (hst : Step w v w' v' l') (h : Lies w ao news) : Apart v' ao news := fun h0 ad he => by
  obtain ⟨ad', he', hc⟩ := h 0 h0
  rw [he'] at he
  cases he
  have hlt := World.block_lt_of_cell? _ _ hc
  rw [add_block] at hlt
  exact hst.away hlt (ha h0 _ he')

theorem Lies.alloc {w : World} {ao : Option Addr} {news : List Int} (h : Lies w ao news) (o : Obj) : Lies (w.alloc o) ao news := fun j hj => by
  obtain ⟨ad, he, hc⟩ := h j hj
  exact ⟨ad, he, (World.cell?_of_block (Below.heap_alloc w o _ (World.block_lt_of_cell? _ _ hc))).trans hc⟩

set_option maxHeartbeats 800000 in
theorem appendBytes_nil (v : Value) (l : List Int) (w : World) (hown : Has w v l) (hlim : l.length ≤ 90000) :
    Calls Yba.prog 15 #[v, .slice none 0 0] w fun e w' => ∃ v', e = .returned v' ∧ Step w v w' v' (l ++ fld none) := by
  have hnil := fun (wx : World) => Lib.run_eql_slice_nil (P := Yba.prog) wx 23 5 none 0 0 0 0 Yba.underlying23
  go_enter Yba.func15, Yba.ntmps15
  go_wp2_with (at_builtin; refine wpList_append_step rfl _ _ rfl _ l rfl (hown.alloc _) (some ⟨w.heap.size, 0, none⟩) 1 1 [0] rfl rfl ?c1 ?c2 ?_)
  case c1 => exact one_new _ _ _
  case c2 => simp; omega
  intro v' w1 hst1
  go_wp2
  go_ret
  exact ⟨v', rfl, hst1.ofAlloc⟩

set_option maxHeartbeats 1600000 in
theorem appendBytes_some (v : Value) (l : List Int) (w : World) (hown : Has w v l) (hlim : l.length ≤ 90000) (ad : Addr) (c : Nat) (news : List Int) (hn : news.length ≤ 2000) (hlies : Lies w (some ad) news) (hap : Apart v (some ad) news) :
    Calls Yba.prog 15 #[v, .slice (some ad) news.length c] w fun e w' => ∃ v', e = .returned v' ∧ Step w v w' v' (l ++ fld (some news)) := by
  have hnil := fun (wx : World) => Lib.run_eql_slice_nil (P := Yba.prog) wx 23 5 (some ad) news.length c 0 0 Yba.underlying23
  have hl10 := uvz_length (x := news.length) (by omega)
  go_enter Yba.func15, Yba.ntmps15
  go_wp2_with (at_builtin; refine wpList_append_step rfl _ _ rfl _ l rfl (hown.alloc _) (some ⟨w.heap.size, 0, none⟩) 1 1 [1] rfl rfl ?c1 ?c2 ?_)
  case c1 => exact one_new _ _ _
  case c2 => simp; omega
  intro v1 w1 hst1
  have hs1 := hst1.ofAlloc
  have hl1 := hlies.step hs1 hap
  have ha1 := hap.step hs1 hlies
  clear hst1
  go_wp2_with (first
    | (go_at_call 7; refine (uvarint_step news.length (by omega) v1 (l ++ [1]) w1 hs1.own (by simp; omega)).mono ?_; rintro e w2 ⟨v2, rfl, hst2⟩)
    | (at_builtin; refine wpList_append_step rfl _ _ rfl _ (l ++ [1] ++ uvz news.length) rfl hst2.own (some ad) news.length c news rfl rfl ?d1 ?d2 ?_))
  case d1 => exact hl1.step hst2 ha1
  case d2 => simp; omega
  intro v3 w3 hst3
  go_wp2
  go_ret
  refine ⟨v3, rfl, ?_⟩
  have := (hs1.trans hst2).trans hst3
  simpa [fld] using this

/-! ### the law's own helper: the same encoding, by a flag -/

set_option maxHeartbeats 800000 in
theorem zbytes_no (v : Value) (l : List Int) (w : World) (hown : Has w v l) (hlim : l.length ≤ 90000) (x : Value) :
    Calls Yba.prog 9 #[v, x, .bool false] w fun e w' => ∃ v', e = .returned v' ∧ Step w v w' v' (l ++ fld none) := by
  go_enter Yba.func9, Yba.ntmps9
  go_wp2_with (at_builtin; refine wpList_append_step rfl _ _ rfl _ l rfl (hown.alloc _) (some ⟨w.heap.size, 0, none⟩) 1 1 [0] rfl rfl ?c1 ?c2 ?_)
  case c1 => exact one_new _ _ _
  case c2 => simp; omega
  intro v' w1 hst1
  go_wp2
  go_ret
  exact ⟨v', rfl, hst1.ofAlloc⟩

set_option maxHeartbeats 1600000 in
theorem zbytes_yes (v : Value) (l : List Int) (w : World) (hown : Has w v l) (hlim : l.length ≤ 90000) (ao : Option Addr) (c : Nat) (news : List Int) (hn : news.length ≤ 2000) (hlies : Lies w ao news) (hap : Apart v ao news) :
    Calls Yba.prog 9 #[v, .slice ao news.length c, .bool true] w fun e w' => ∃ v', e = .returned v' ∧ Step w v w' v' (l ++ fld (some news)) := by
  have hl10 := uvz_length (x := news.length) (by omega)
  go_enter Yba.func9, Yba.ntmps9
  go_wp2_with (at_builtin; refine wpList_append_step rfl _ _ rfl _ l rfl (hown.alloc _) (some ⟨w.heap.size, 0, none⟩) 1 1 [1] rfl rfl ?c1 ?c2 ?_)
  case c1 => exact one_new _ _ _
  case c2 => simp; omega
  intro v1 w1 hst1
  have hs1 := hst1.ofAlloc
  have hl1 := hlies.step hs1 hap
  have ha1 := hap.step hs1 hlies
  clear hst1
  go_wp2_with (first
    | (go_at_call 7; refine (uvarint_step news.length (by omega) v1 (l ++ [1]) w1 hs1.own (by simp; omega)).mono ?_; rintro e w2 ⟨v2, rfl, hst2⟩)
    | (at_builtin; refine wpList_append_step rfl _ _ rfl _ (l ++ [1] ++ uvz news.length) rfl hst2.own ao news.length c news rfl rfl ?d1 ?d2 ?_))
  case d1 => exact hl1.step hst2 ha1
  case d2 => simp; omega
  intro v3 w3 hst3
  go_wp2
  go_ret
  refine ⟨v3, rfl, ?_⟩
  have := (hs1.trans hst2).trans hst3
  simpa [fld] using this

/-! ### a ballot -/

set_option maxHeartbeats 1600000 in
theorem ballot_step (v : Value) (l : List Int) (w : World) (hown : Has w v l) (hlim : l.length ≤ 90000) (r : Nat) (hr : r < 18446744073709551616) (n : Int) (n0 : -9223372036854775808 ≤ n) (n1 : n ≤ 9223372036854775807) :
    Calls Yba.prog 16 #[v, .agg #[.int .u64 r, .int .i64 n]] w fun e w' => ∃ v', e = .returned v' ∧ Step w v w' v' (l ++ bal r n) := by
  have hl10 := uvz_length hr
  have hne : v.ownBlock ≠ some w.heap.size := fun e => by have := hown.lt e; omega
  go_enter Yba.func16, Yba.ntmps16
  go_wp2_with fail
  refine (uvarint_step r hr v l _ (hown.alloc _) (by omega)).mono ?_
  rintro e w1 ⟨v1, rfl, hst1⟩
  have hc1 : w1.cell? ⟨w.heap.size, 1, none⟩ = some (.int .i64 n) := hst1.cell (by simp [go_sem]) hne
  have hs1 := hst1.ofAlloc
  clear hst1
  go_wp2_with fail
  refine (varint_step n n0 n1 v1 (l ++ uvz r) w1 hs1.own (by simp; omega)).mono ?_
  rintro e w2 ⟨v2, rfl, hst2⟩
  go_wp2
  go_ret
  refine ⟨v2, rfl, ?_⟩
  have := hs1.trans hst2
  simpa [bal] using this

/-! ### boolByte, Outcome at a proposer that has not run -/

set_option maxHeartbeats 400000 in
theorem boolByte_no (w : World) : Calls Yba.prog 17 #[.bool false] w fun e w' => e = .returned (.int .u8 0) ∧ w' = w := by
  go_enter Yba.func17, Yba.ntmps17
  go_wp2
  go_ret
  exact ⟨rfl, rfl⟩

set_option maxHeartbeats 400000 in
theorem outcome_no (b off : Nat) (w : World) (h10 : w.cell? ⟨b, off + 10, none⟩ = some (.int .u8 0)) :
    Calls Yba.prog 18 #[.pointer (some ⟨b, off, none⟩)] w fun e w' => e = .returned (.tuple #[.int .u8 0, .slice none 0 0]) ∧ w' = w := by
  go_enter Yba.func18, Yba.ntmps18
  go_wp2
  go_ret2
  exact ⟨rfl, rfl⟩

end Go.Proofs.Ybulkrmk
