/-
  CONTRACTS over the dump ybulkrmk: AppendState of an acceptor and of a learner; local at a node.
-/
import Derived.Test.YbulkrmkCopy
import Derived.Deep.RegionHeld3
namespace Go.Proofs.Ybulkrmk
open Go.RowKit

/-- A copied value lies elsewhere than v. -/
def Off (v x : Value) : Prop := ∀ g n c, x = .slice (some ⟨g, 0, none⟩) n c → v.ownBlock ≠ some g

theorem Copied.step {w w' : World} {v v' x : Value} {l' : List Int} {has : Bool} {bs : List Int} (h : Copied w x has bs) (hst : Step w v w' v' l') (ho : Off v x) : Copied w' x has bs := by
  rcases h with h | ⟨rfl, g, c, rfl, hl⟩
  · exact .inl h
  · exact .inr ⟨rfl, g, c, rfl, hl.step hst (fun _ ad he => by cases he; exact ho g _ _ rfl)⟩

/-- The block of a copied value that holds something is there. -/
def There (w : World) (x : Value) : Prop := ∀ g n c, x = .slice (some ⟨g, 0, none⟩) n c → g < w.heap.size

theorem Off.step {w w' : World} {v v' x : Value} {l' : List Int} (ho : Off v x) (hst : Step w v w' v' l') (ht : There w x) : Off v' x := fun g n c he => hst.away (ht g n c he) (ho g n c he)
theorem There.step {w w' : World} {v v' x : Value} {l' : List Int} (ht : There w x) (hst : Step w v w' v' l') : There w' x := fun g n c he => Nat.lt_of_lt_of_le (ht g n c he) hst.size

theorem appendBytes_any (v x : Value) (l : List Int) (w : World) (hown : Has w v l) (hlim : l.length ≤ 90000) (has : Bool) (bs : List Int) (hx : Copied w x has bs) (ho : Off v x) (hl : bs.length ≤ 2000) :
    Calls Yba.prog 15 #[v, x] w fun e w' => ∃ v', e = .returned v' ∧ Step w v w' v' (l ++ enc? has bs) := by
  rcases hx with ⟨rfl, rfl⟩ | ⟨rfl, g, c, rfl, hlies⟩
  · exact appendBytes_nil v l w hown hlim
  · exact appendBytes_some v l w hown hlim ⟨g, 0, none⟩ c bs hl hlies (fun _ ad he => by cases he; exact ho g _ _ rfl)

/-- An acceptor's cells. -/
structure AccAt (w : World) (b o : Nat) (pr : Nat) (pn : Int) (vr : Nat) (vn : Int) (x : Value) : Prop where
  c0 : w.cell? ⟨b, o, none⟩ = some (.int .u64 pr)
  c1 : w.cell? ⟨b, o + 1, none⟩ = some (.int .i64 pn)
  c2 : w.cell? ⟨b, o + 2, none⟩ = some (.int .u64 vr)
  c3 : w.cell? ⟨b, o + 3, none⟩ = some (.int .i64 vn)
  c4 : w.cell? ⟨b, o + 4, none⟩ = some x

theorem AccAt.step {w w' : World} {v v' x : Value} {l' : List Int} {b o pr vr : Nat} {pn vn : Int} (h : AccAt w b o pr pn vr vn x) (hst : Step w v w' v' l') (hne : v.ownBlock ≠ some b) : AccAt w' b o pr pn vr vn x :=
  ⟨hst.cell h.c0 hne, hst.cell h.c1 hne, hst.cell h.c2 hne, hst.cell h.c3 hne, hst.cell h.c4 hne⟩

theorem bal_length (r : Nat) (hr : r < 18446744073709551616) (n : Int) (n0 : -9223372036854775808 ≤ n) (n1 : n ≤ 9223372036854775807) : (bal r n).length ≤ 20 := by
  unfold bal
  have h1 := uvz_length hr
  have h2 := uvz_length (Lib.zigzag_lt n0 n1)
  rw [List.length_append]
  omega

theorem enc_length (has : Bool) (bs : List Int) (h : bs.length ≤ 2000) : (enc? has bs).length ≤ 2020 := by
  cases has
  · simp [enc?, fld]
  · have := uvz_length (x := bs.length) (by omega)
    simp [enc?, fld]
    omega

set_option maxHeartbeats 1600000 in
theorem acc_step (b o pr vr : Nat) (pn vn : Int) (x v : Value) (l : List Int) (w : World) (hA : AccAt w b o pr pn vr vn x) (has : Bool) (bs : List Int) (hx : Copied w x has bs) (ht : There w x) (ho : Off v x) (hl : bs.length ≤ 2000)
    (hown : Has w v l) (hne : v.ownBlock ≠ some b) (hlim : l.length ≤ 80000) (pr1 : pr < 18446744073709551616) (vr1 : vr < 18446744073709551616)
    (pn0 : -9223372036854775808 ≤ pn) (pn1 : pn ≤ 9223372036854775807) (vn0 : -9223372036854775808 ≤ vn) (vn1 : vn ≤ 9223372036854775807) :
    Calls Yba.prog 13 #[.pointer (some ⟨b, o, none⟩), v] w fun e w' => ∃ v', e = .returned v' ∧ Step w v w' v' (l ++ (bal pr pn ++ (bal vr vn ++ enc? has bs))) := by
  have hb1 := bal_length pr pr1 pn pn0 pn1
  have hb2 := bal_length vr vr1 vn vn0 vn1
  have hlt := World.block_lt_of_cell? _ _ hA.c0
  obtain ⟨c0, c1, c2, c3, c4⟩ := id hA
  go_enter Yba.func13, Yba.ntmps13
  go_wp2_with fail
  refine (ballot_step v l w hown (by omega) pr pr1 pn pn0 pn1).mono ?_
  rintro e w1 ⟨v1, rfl, T1⟩
  clear c0 c1 c2 c3 c4
  have hA1 := hA.step T1 hne
  have hne1 := T1.away hlt hne
  have hx1 := hx.step T1 ho
  have ho1 := ho.step T1 ht
  have ht1 := ht.step T1
  obtain ⟨c0, c1, c2, c3, c4⟩ := id hA1
  go_wp2_with fail
  refine (ballot_step v1 (l ++ bal pr pn) w1 T1.own (by simp; omega) vr vr1 vn vn0 vn1).mono ?_
  rintro e w2 ⟨v2, rfl, T2⟩
  clear c0 c1 c2 c3 c4
  have hA2 := hA1.step T2 hne1
  have hx2 := hx1.step T2 ho1
  have ho2 := ho1.step T2 ht1
  obtain ⟨c0, c1, c2, c3, c4⟩ := id hA2
  have T12 := T1.trans T2
  clear T1 T2 hA1 hne1 hx1 ho1 ht1
  rcases id hx2 with ⟨_, hxe⟩ | ⟨_, g, c, hxe, _⟩
  · rw [hxe] at c4 hx2 ho2
    go_wp2_with fail
    refine (appendBytes_any v2 _ (l ++ bal pr pn ++ bal vr vn) w2 T12.own (by simp; omega) has bs hx2 ho2 hl).mono ?_
    rintro e w3 ⟨v3, rfl, T3⟩
    go_wp2
    go_ret
    refine ⟨v3, rfl, ?_⟩
    simpa using T12.trans T3
  · rw [hxe] at c4 hx2 ho2
    go_wp2_with fail
    refine (appendBytes_any v2 _ (l ++ bal pr pn ++ bal vr vn) w2 T12.own (by simp; omega) has bs hx2 ho2 hl).mono ?_
    rintro e w3 ⟨v3, rfl, T3⟩
    go_wp2
    go_ret
    refine ⟨v3, rfl, ?_⟩
    simpa using T12.trans T3

set_option maxHeartbeats 800000 in
theorem lrn_step (b o : Nat) (x v : Value) (l : List Int) (w : World) (hc : w.cell? ⟨b, o, none⟩ = some x) (has : Bool) (bs : List Int) (hx : Copied w x has bs) (ho : Off v x) (hl : bs.length ≤ 2000) (hown : Has w v l) (hlim : l.length ≤ 80000) :
    Calls Yba.prog 14 #[.pointer (some ⟨b, o, none⟩), v] w fun e w' => ∃ v', e = .returned v' ∧ Step w v w' v' (l ++ enc? has bs) := by
  rcases id hx with ⟨_, hxe⟩ | ⟨_, g, c, hxe, _⟩
  all_goals
    rw [hxe] at hc hx ho
    go_enter Yba.func14, Yba.ntmps14
    go_wp2_with fail
    refine (appendBytes_any v _ l w hown (by omega) has bs hx ho hl).mono ?_
    rintro e w3 ⟨v3, rfl, T3⟩
    go_wp2
    go_ret
    exact ⟨v3, rfl, T3⟩

end Go.Proofs.Ybulkrmk
