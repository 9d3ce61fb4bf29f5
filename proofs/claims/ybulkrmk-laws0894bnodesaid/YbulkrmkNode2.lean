/-
  CONTRACT over the dump ybulkrmk: local at a node.
-/
import Derived.Test.YbulkrmkNode
namespace Go.Proofs.Ybulkrmk
open Go.RowKit

/-- What the law's state holds, as far as the road of node t + 1 reads it. -/
structure Nd (w : World) (sb ab lb n t pr vr : Nat) (pn vn : Int) (x y : Value) : Prop where
  s0 : w.cell? ⟨sb, 0, none⟩ = some (.slice (some ⟨ab, 0, none⟩) n n)
  s1 : w.cell? ⟨sb, 1, none⟩ = some (.slice (some ⟨lb, 0, none⟩) n n)
  acc : AccAt w ab (t * 5) pr pn vr vn x
  lrn : w.cell? ⟨lb, t, none⟩ = some y

theorem Nd.step {w w' : World} {v v' x y : Value} {l' : List Int} {sb ab lb n t pr vr : Nat} {pn vn : Int} (h : Nd w sb ab lb n t pr vr pn vn x y) (hst : Step w v w' v' l') (h1 : v.ownBlock ≠ some sb) (h2 : v.ownBlock ≠ some ab) (h3 : v.ownBlock ≠ some lb) : Nd w' sb ab lb n t pr vr pn vn x y :=
  ⟨hst.cell h.s0 h1, hst.cell h.s1 h1, h.acc.step hst h2, hst.cell h.lrn h3⟩

theorem Step.ofDrewS {w w' : World} {v v' : Value} {l' : List Int} (h : Step w.drew v w' v' l') : Step w v w' v' l' := ⟨h.own, ⟨h.grown.os, h.grown.tape, h.grown.output, h.grown.size, h.grown.block⟩, h.block⟩

set_option maxHeartbeats 1600000 in
theorem local_node (z : Value) (sb ab lb n t pr vr : Nat) (pn vn : Int) (x y v : Value) (l : List Int) (w : World) (hN : Nd w sb ab lb n t pr vr pn vn x y) (hv hl : Bool) (vb lbs : List Int)
    (hx : Copied w x hv vb) (tx : There w x) (ox : Off v x) (hy : Copied w y hl lbs) (ty : There w y) (oy : Off v y) (lv : vb.length ≤ 2000) (ll : lbs.length ≤ 2000)
    (ht : t < n) (hn : n ≤ 1024) (hown : Has w v l) (h1 : v.ownBlock ≠ some sb) (h2 : v.ownBlock ≠ some ab) (h3 : v.ownBlock ≠ some lb) (hlim : l.length ≤ 70000) (pr1 : pr < 18446744073709551616) (vr1 : vr < 18446744073709551616)
    (pn0 : -9223372036854775808 ≤ pn) (pn1 : pn ≤ 9223372036854775807) (vn0 : -9223372036854775808 ≤ vn) (vn1 : vn ≤ 9223372036854775807) :
    Calls Yba.prog 6 #[z, v, .pointer (some ⟨sb, 0, none⟩), .agg #[.int .i64 ((t : Int) + 1), .int .i64 0]] w fun e w' => ∃ v', e = .returned v' ∧ Step w v w' v' (l ++ (bal pr pn ++ (bal vr vn ++ (enc? hv vb ++ enc? hl lbs)))) := by
  have e0 : (((t : Int) + 1) == 0) = false := by simp; omega
  have i0 : (0 : Int) ≤ (t : Int) := by omega
  have i1 : (t : Int) < (n : Int) := by omega
  have hw1 : IntKind.i64.wrap ((t : Int) + 1 - 1) = (t : Int) := by rw [IntKind.wrap_i64]; omega
  have hw2 : IntKind.i64.wrap (t : Int) = (t : Int) := by rw [IntKind.wrap_i64]; omega
  have sbl := World.block_lt_of_cell? _ _ hN.s0
  obtain ⟨s0, s1, _, _⟩ := id hN
  have T0 : Step w v (w.alloc (.cells #[.int .i64 ((t : Int) + 1), .int .i64 0] 52)).drew v l := ((Step.refl hown).alloc _).drew
  have N0 := hN.step T0 h1 h2 h3
  have hq0 : ((w.alloc (.cells #[.int .i64 ((t : Int) + 1), .int .i64 0] 52)).drew).cell? ⟨w.heap.size, 0, none⟩ = some (.int .i64 ((t : Int) + 1)) := by simp [go_sem]
  have hvq : v.ownBlock ≠ some w.heap.size := fun e => by have := hown.lt e; omega
  have hC := acc_step ab (t * 5) pr vr pn vn x v l _ N0.acc hv vb (hx.step T0 ox) (tx.step T0) ox lv T0.own h2 (by omega) pr1 vr1 pn0 pn1 vn0 vn1
  go_enter Yba.func6, Yba.ntmps6
  go_wp2_with fail
  go_region_held3 (fun w' => w'.cell? ⟨sb, 0, none⟩ = some (.slice (some ⟨ab, 0, none⟩) n n) ∧ w'.cell? ⟨w.heap.size, 0, none⟩ = some (.int .i64 ((t : Int) + 1))) (go_keep) (first | (go_at_call 13; refine hC.mono ?_; rintro e w1 ⟨v1, rfl, T1⟩; have q0 := T1.cell N0.s0 h1; have q1 := T1.cell hq0 hvq))
  have sl0 := World.block_lt_of_cell? _ _ N0.s0
  have al0 := World.block_lt_of_cell? _ _ N0.acc.c0
  have ll0 := World.block_lt_of_cell? _ _ N0.lrn
  have N1 := N0.step T1 h1 h2 h3
  have hy1 := (hy.step T0 oy).step T1 oy
  have oy1 := oy.step T1 (ty.step T0)
  have k1 := T1.away sl0 h1
  have k3 := T1.away ll0 h3
  have kq := T1.away (by simp) hvq
  have D1 : Step w1 v1 w1.drew v1 (l ++ (bal pr pn ++ (bal vr vn ++ enc? hv vb))) := (Step.refl T1.own).drew
  have hb1 := bal_length pr pr1 pn pn0 pn1
  have hb2 := bal_length vr vr1 vn vn0 vn1
  have hen := enc_length hv vb lv
  have hC2 := lrn_step lb t y v1 _ w1.drew N1.lrn hl lbs (hy1.step D1 oy1) oy1 ll D1.own (by simp; omega)
  have TT := T0.trans T1
  have r1 := N1.s1
  clear hC T0 T1 N0 N1 hq0 q0 D1 hy1 hx tx ox hy ty oy
  go_wp2_with fail
  go_region_held3 (fun w' => w'.cell? ⟨sb, 1, none⟩ = some (.slice (some ⟨lb, 0, none⟩) n n) ∧ w'.cell? ⟨w.heap.size, 0, none⟩ = some (.int .i64 ((t : Int) + 1))) (go_keep) (first | (go_at_call 14; refine hC2.mono ?_; rintro e w2 ⟨v2, rfl, T2⟩; have q2 := T2.cell (a := ⟨sb, 1, none⟩) r1 k1; have q3 := T2.cell (a := ⟨w.heap.size, 0, none⟩) q1 kq))
  go_wp2
  go_ret
  refine ⟨v2, rfl, ?_⟩
  have := TT.trans T2.ofDrewS
  simpa using this

end Go.Proofs.Ybulkrmk
