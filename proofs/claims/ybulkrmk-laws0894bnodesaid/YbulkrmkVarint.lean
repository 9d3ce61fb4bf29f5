/-
  CONTRACTS over the dump ybulkrmk: binary.AppendUvarint, binary.AppendVarint onto a slice of the call's own, with the exact frame; bytes.Equal of two slices that hold the same bytes.
-/
import Derived.Test.YbulkrmkBuf
import Derived.Lib.VarintMem
import Derived.Lib.Zigzag
import Derived.Laws.BytesArg
namespace Go.Proofs.Ybulkrmk
open Go.RowKit

/-- The varint's bytes as numbers. -/
def uvz (x : Nat) : List Int := (Lib.uvarint x).map fun b => (b.toNat : Int)

theorem uvz_small {x : Nat} (h : x < 128) : uvz x = [(x : Int)] := by
  unfold uvz
  rw [Lib.uvarint_small h]
  simp
  omega
theorem uvz_big {x : Nat} (h : 128 ≤ x) : uvz x = ((x % 128 + 128 : Nat) : Int) :: uvz (x / 128) := by
  unfold uvz
  rw [Lib.uvarint_big h]
  simp
  omega
theorem uvz_length {x : Nat} (h : x < 18446744073709551616) : (uvz x).length ≤ 10 := by
  unfold uvz
  rw [List.length_map]
  exact Lib.uvarint_length64 h
theorem uvz_pos (x : Nat) : 1 ≤ (uvz x).length := by
  unfold uvz
  rw [List.length_map]
  exact Lib.uvarint_pos x

/-- One new byte behind a one-element slice that the text lays. -/
theorem one_new (w : World) (z : Int) (t : TypeId) : ∀ j, j < [z].length → ∃ ad, some (⟨w.heap.size, 0, none⟩ : Addr) = some ad ∧ (w.alloc (.cells #[.int .u8 z] t)).cell? (ad.add j) = some (.int .u8 ([z].getD j 0)) := by
  intro j hj
  simp at hj
  subst hj
  exact ⟨_, rfl, by simp [Addr.add]⟩

set_option maxHeartbeats 1600000 in
set_option maxRecDepth 100000 in
theorem uvarint_step (x : Nat) (hx : x < 18446744073709551616) (v : Value) (l : List Int) (w : World) (hown : Has w v l) (hlim : l.length ≤ 100000) :
    Calls Yba.prog 7 #[v, .int .u64 x] w fun e w' => ∃ v', e = .returned v' ∧ Step w v w' v' (l ++ uvz x) := by
  have hlen := uvz_length hx
  go_enter Yba.func7, Yba.ntmps7
  go_wp2
  go_loopw [0, 1] (fun vb vx wr => ∃ (y : Nat) (pre : List Int), vx = .int .u64 y ∧ y ≤ x ∧ uvz x = pre ++ uvz y ∧ Step w v wr vb (l ++ pre))
    (fun _ vx _ => (intOf vx).toNat)
  case atStart => exact ⟨x, [], rfl, Nat.le_refl _, rfl, by rw [List.append_nil]; exact Step.refl hown⟩
  case round =>
    obtain ⟨y, pre, rfl, hy, hsplit0, hst⟩ := hrel
    have hsplit : Hid (uvz x = pre ++ uvz y) := hsplit0
    have hpl : pre.length + (uvz y).length ≤ 10 := by
      have h2 := congrArg List.length hsplit0
      rw [List.length_append] at h2
      omega
    clear hsplit0
    have hyp := uvz_pos y
    by_cases h128 : 128 ≤ y
    · have hor : bits .or .u8 ((y : Int) % 256) 128 = ((y % 128 + 128 : Nat) : Int) := by
        rw [Lib.u8_or128_any _ (by omega) (by omega)]
        omega
      go_wp2_with (at_builtin; refine wpList_append_step rfl _ _ rfl _ (l ++ pre) rfl (hst.own.alloc _) (some ⟨wr.heap.size, 0, none⟩) 1 1 [((y % 128 + 128 : Nat) : Int)] rfl rfl ?c1 ?c2 ?_)
      case c1 => exact one_new _ _ _
      case c2 => simp; omega
      intro v' w1 hst1
      go_wp2
      go_roundw
      case rel =>
        exact ⟨y / 128, pre ++ [(y : Int) % 128 + 128], by go_num, by omega, by rw [hsplit.out, uvz_big h128]; simp, hst.trans hst1.ofAlloc⟩
      case measure => simp [intOf]; omega
    · go_wp2_with (at_builtin; refine wpList_append_step rfl _ _ rfl _ (l ++ pre) rfl (hst.own.alloc _) (some ⟨wr.heap.size, 0, none⟩) 1 1 [(y : Int)] rfl rfl ?c1 ?c2 ?_)
      case c1 => exact one_new _ _ _
      case c2 => simp; omega
      intro v' w1 hst1
      go_wp2
      go_ret
      refine ⟨v', rfl, ?_⟩
      rw [hsplit.out, uvz_small (by omega)]
      exact hst.trans hst1.ofAlloc

set_option maxHeartbeats 800000 in
theorem varint_step (x : Int) (h0 : -9223372036854775808 ≤ x) (h1 : x ≤ 9223372036854775807) (v : Value) (l : List Int) (w : World) (hown : Has w v l) (hlim : l.length ≤ 100000) :
    Calls Yba.prog 8 #[v, .int .i64 x] w fun e w' => ∃ v', e = .returned v' ∧ Step w v w' v' (l ++ uvz (Lib.zigzag x)) := by
  have hU := uvarint_step (Lib.zigzag x) (Lib.zigzag_lt h0 h1) v l w hown hlim
  by_cases hneg : x < 0
  · rw [← Lib.zigzag_neg h0 hneg] at hU
    go_enter Yba.func8, Yba.ntmps8
    go_wp2_with (go_at_call 7; refine hU.mono ?_; rintro e w1 ⟨v', rfl, hst⟩)
    go_ret
    exact ⟨v', rfl, hst⟩
  · rw [Lib.zigzag_nonneg (by omega)] at hU
    go_enter Yba.func8, Yba.ntmps8
    go_wp2_with (go_at_call 7; refine hU.mono ?_; rintro e w1 ⟨v', rfl, hst⟩)
    go_ret
    exact ⟨v', rfl, hst⟩

/-- 'string(b)' of such a slice. -/
theorem Has.string {w : World} {v : Value} {l : List Int} (h : Has w v l) : (convert 23 9 v).run Yba.prog w = .ok (.string (strOfNums l)) w := by
  obtain ⟨ao, c, rfl, _, hc⟩ := h.shape
  cases ao with
  | none =>
    have hl : l.length = 0 := by
      rcases Nat.eq_zero_or_pos l.length with h0 | h0
      · exact h0
      · obtain ⟨g, he, _⟩ := hc 0 h0
        cases he
    obtain rfl : l = [] := List.eq_nil_of_length_eq_zero hl
    exact run_convert_bytes_nil (P := Yba.prog) w 23 5 Yba.underlying23 Yba.underlying5 0 c 9 Yba.underlying9
  | some a =>
    rcases Nat.eq_zero_or_pos l.length with h0 | h0
    · obtain rfl : l = [] := List.eq_nil_of_length_eq_zero h0
      obtain ⟨b, off, sp⟩ := a
      rcases h.2 with ⟨he, _⟩ | ⟨g, cap, cur, he, _⟩
      · cases he
      · simp at he
        obtain ⟨⟨rfl, rfl, rfl⟩, rfl⟩ := he
        exact run_convert_bytes_arg (P := Yba.prog) w 23 5 Yba.underlying23 Yba.underlying5 b 0 0 c [] rfl (fun i hi => by omega) 9 Yba.underlying9
    · obtain ⟨g, he, _, _⟩ := hc 0 h0
      cases he
      exact run_convert_bytes_arg (P := Yba.prog) w 23 5 Yba.underlying23 Yba.underlying5 g 0 l.length c l rfl (fun i hi => by
        obtain ⟨g', he', _, hcell⟩ := hc i hi
        cases he'
        simpa using hcell) 9 Yba.underlying9

set_option maxHeartbeats 800000 in
theorem equal_same (v1 v2 : Value) (l : List Int) (w : World) (h1 : Has w v1 l) (h2 : Has w v2 l) :
    Calls Yba.prog 10 #[v1, v2] w fun e w' => e = .returned (.bool true) ∧ w' = w := by
  have e1 := h1.string
  have e2 := h2.string
  go_enter Yba.func10, Yba.ntmps10
  go_wp2
  go_ret
  exact ⟨rfl, rfl⟩

end Go.Proofs.Ybulkrmk
