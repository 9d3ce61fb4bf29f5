/-
  THE WALK of explore.LawS0894BProposer: it returns true; nothing that was there turns.
-/
import Derived.Test.YbulkrmkProp2
import Derived.Deep.CutRange
import Derived.Deep.RegionLawGrows
import Derived.ProofKit
namespace Go.Proofs.Ybulkrmk
open Go.RowKit

theorem Yba.info3 : (Yba.prog.info? 3).map (fun i => (i.zero, i.size, i.bytes)) = some (some (.int .i64 0), 1, 8) := by kernel_rfl
theorem Yba.info60 : (Yba.prog.info? 60).map (fun i => (i.zero, i.size, i.bytes)) = some (some (.agg #[.string ⟨#[]⟩, .int .u64 0, .int .i64 0, .int .i64 0, .slice none 0 0, .bool false, .int .u64 0, .int .u64 0, .int .i64 0, .slice none 0 0, .int .u8 0]), 11, 128) := by kernel_rfl

/-- The zero proposer's cells. -/
def z60 : Array Value := #[.string ⟨#[]⟩, .int .u64 0, .int .i64 0, .int .i64 0, .slice none 0 0, .bool false, .int .u64 0, .int .u64 0, .int .i64 0, .slice none 0 0, .int .u8 0]
/-- A row of n zero proposers. -/
def row60 (n : Nat) : Array Value := madeCells z60 (n * 11)

theorem make60 (n : Nat) (hn : n ≤ 1024) (w : World) : (Instr.makeSlice 30 (.int .i64 (n : Int)) (.int .i64 (n : Int))).run Yba.prog w = .ok (.slice (some ⟨w.heap.size, 0, none⟩) n n) (w.alloc (.cells (row60 n) 60)) := by
  obtain ⟨i0, hi, hz0, hz1, hz2⟩ := info_parts Yba.info60
  have := run_make (P := Yba.prog) w 30 60 i0 _ Yba.underlying30 hi hz0 .i64 .i64 (n : Int) (n : Int) (by omega) (by omega) (by rw [hz2]; omega) (by omega)
  rw [this, hz1]
  simp [row60, z60, Value.cells]

theorem row60_at (n j r : Nat) (hj : j < n) (hr : r < 11) : (row60 n)[j * 11 + r]? = z60[r]? := by
  have h1 : j * 11 + r < n * 11 := by omega
  have h2 : (j * 11 + r) % 11 = r := by omega
  have hs : z60.size = 11 := rfl
  simp [row60, madeCells, h1, hs, h2, hr]

/-- Zero proposers in a row. -/
theorem zero_of_row {w : World} {pb n : Nat} (h : w.heap[pb]? = some (.cells (row60 n) 60 (0, 0))) (j : Nat) (hj : j < n) : Zero w pb (j * 11) := by
  have hc : ∀ r, r < 11 → w.cell? ⟨pb, j * 11 + r, none⟩ = z60[r]? := fun r hr => by
    simp only [World.cell?, h]
    simpa using row60_at n j r hj hr
  exact ⟨by simpa [z60] using hc 0 (by omega), hc 1 (by omega), hc 2 (by omega), hc 3 (by omega), hc 4 (by omega), hc 5 (by omega), hc 6 (by omega), hc 7 (by omega), hc 8 (by omega), hc 9 (by omega), hc 10 (by omega)⟩

/-- The law's state, built: nothing that was there has turned. -/
structure Built (w wc : World) (n : Nat) (zs : List Int) (sb pb qb cq : Nat) : Prop where
  below : Below w.heap.size w wc
  s2 : wc.cell? ⟨sb, 2, none⟩ = some (.slice (some ⟨pb, 0, none⟩) n n)
  s3 : wc.cell? ⟨sb, 3, none⟩ = some (.slice (some ⟨qb, 0, none⟩) n cq)
  q : ∀ j, j < n → wc.cell? ⟨qb, j, none⟩ = some (.int .i64 (zs.getD j 0))
  zero : ∀ j, j < n → Zero wc pb (j * 11)

theorem Built.st {w wc : World} {n : Nat} {zs : List Int} {sb pb qb cq : Nat} (h : Built w wc n zs sb pb qb cq) (i : Nat) (hi : i < n) : St wc sb pb qb n cq i (zs.getD i 0) := ⟨h.s2, h.s3, h.q i hi, h.zero i hi⟩

/-- A row of ints of the call's own, as a value and by its cells. -/
theorem owned_form {w' : World} {B n : Nat} {v' : Value} {zs : List Int} (h : w'.ownsRow B 3 1 v' (0 + n) ([] ++ zs.map (Value.int .i64))) (n0 : 0 < n) (hnz : zs.length = n) :
    ∃ g cq, v' = .slice (some ⟨g, 0, none⟩) n cq ∧ B ≤ g ∧ g < w'.heap.size ∧ ∀ j, j < n → w'.cell? ⟨g, j, none⟩ = some (.int .i64 (zs.getD j 0)) := by
  have h0 := h
  rcases h.2 with ⟨_, he⟩ | ⟨g, cq, cur, hv, hB, _⟩
  · omega
  · rw [Nat.zero_add] at hv
    subst hv
    refine ⟨g, cq, rfl, hB, (World.ownsRow.lt h0 g rfl).2, fun j hj => ?_⟩
    have := World.ownsRow.cells h0 (g := g) rfl j (.int .i64 (zs.getD j 0)) (by simp [List.getD, show j < zs.length by omega])
    rw [Addr.add_lit, Nat.zero_add] at this
    exact this

/-- The state's own cells. -/
def sCells (n pb qb cq : Nat) : Array Value := #[.slice none 0 0, .slice none 0 0, .slice (some ⟨pb, 0, none⟩) n n, .slice (some ⟨qb, 0, none⟩) n cq, .slice none 0 0, .slice none 0 0, .int .i64 0]

theorem ofDrew {w w' : World} {r : Option Nat} (h : w.drew.grownBy w' r) : w.grownBy w' r := ⟨h.os, h.tape, h.output, h.size, h.block⟩

/-- Built, the proposers made first. -/
theorem built_A {w w' : World} {n g cq : Nat} {zs : List Int} (hg : (w.alloc (.cells (row60 n) 60)).grownBy w' none) (hlt : g < w'.heap.size) (hq : ∀ j, j < n → w'.cell? ⟨g, j, none⟩ = some (.int .i64 (zs.getD j 0))) :
    Built w (w'.alloc (.cells (sCells n w.heap.size g cq) 35)) n zs w'.heap.size w.heap.size g cq := by
  have hs : w.heap.size < w'.heap.size := by have := hg.size; simp at this; omega
  have hrow : w'.heap[w.heap.size]? = some (.cells (row60 n) 60 (0, 0)) := by
    rw [hg.block w.heap.size (by simp) (by simp)]
    exact heap_alloc_new w _
  have hb : Below w.heap.size w w' := ⟨hg.os, hg.tape, hg.output, by omega, fun k hk => by
    rw [hg.block k (by simp; omega) (by simp)]
    exact Below.heap_alloc w _ k hk⟩
  have keep : ∀ k, k < w'.heap.size → (w'.alloc (.cells (sCells n w.heap.size g cq) 35)).heap[k]? = w'.heap[k]? := fun k hk => Below.heap_alloc w' _ k hk
  refine ⟨hb.trans ⟨rfl, rfl, rfl, by simp, fun k hk => keep k (by omega)⟩, by simp [go_sem, sCells], by simp [go_sem, sCells], fun j hj => ?_, fun j hj => ?_⟩
  · rw [World.cell?_of_block (a := ⟨g, j, none⟩) (keep g hlt)]
    exact hq j hj
  · exact zero_of_row ((keep _ hs).trans hrow) j hj

/-- Built, the proposers made behind the copy. -/
theorem built_B {w w' : World} {n g cq : Nat} {zs : List Int} (hg : w.grownBy w' none) (hlt : g < w'.heap.size) (hq : ∀ j, j < n → w'.cell? ⟨g, j, none⟩ = some (.int .i64 (zs.getD j 0))) :
    Built w ((w'.alloc (.cells (row60 n) 60)).alloc (.cells (sCells n w'.heap.size g cq) 35)) n zs (w'.heap.size + 1) w'.heap.size g cq := by
  have hs := hg.size
  have hb : Below w.heap.size w w' := ⟨hg.os, hg.tape, hg.output, hs, fun k hk => hg.block k hk (by simp)⟩
  have k1 : ∀ k, k < w'.heap.size → (w'.alloc (.cells (row60 n) 60)).heap[k]? = w'.heap[k]? := fun k hk => Below.heap_alloc w' _ k hk
  have k2 : ∀ k, k < w'.heap.size + 1 → ((w'.alloc (.cells (row60 n) 60)).alloc (.cells (sCells n w'.heap.size g cq) 35)).heap[k]? = (w'.alloc (.cells (row60 n) 60)).heap[k]? := fun k hk => Below.heap_alloc _ _ k (by simpa using hk)
  refine ⟨hb.trans ⟨rfl, rfl, rfl, by simp; omega, fun k hk => (k2 k (by omega)).trans (k1 k (by omega))⟩, by simp [go_sem, sCells], by simp [go_sem, sCells], fun j hj => ?_, fun j hj => ?_⟩
  · rw [World.cell?_of_block (a := ⟨g, j, none⟩) ((k2 g (by omega)).trans (k1 g hlt))]
    exact hq j hj
  · exact zero_of_row ((k2 _ (by omega)).trans (heap_alloc_new w' _)) j hj

theorem Lies.below {w w' : World} {ao : Option Addr} {news : List Int} (h : Lies w ao news) (hB : Below w.heap.size w w') : Lies w' ao news := fun j hj => by
  obtain ⟨ad, he, hc⟩ := h j hj
  exact ⟨ad, he, (hB.cell (World.block_lt_of_cell? _ _ hc)).trans hc⟩

/-- Another slice of the call's own is left alone by a step. -/
theorem Step.keeps {w w' : World} {v v' u : Value} {l' m : List Int} (hst : Step w v w' v' l') (h : Has w u m) (hne : ∀ k, u.ownBlock = some k → v.ownBlock ≠ some k) :
    Has w' u m ∧ ∀ k, u.ownBlock = some k → v'.ownBlock ≠ some k := by
  refine ⟨h.kept hst.grown ?_, fun k hk => hst.away (h.lt hk) (hne k hk)⟩
  cases hu : u.ownBlock with
  | none => exact .inl rfl
  | some k => exact .inr fun e => hne k hu e.symm

/-- The nil slice as a step's beginning: what is below stands. -/
theorem Step.belowNil {w w' : World} {v' : Value} {l' : List Int} (h : Step w (.slice none 0 0) w' v' l') {B : Nat} (hB : B ≤ w.heap.size) : Below B w w' := h.below hB (fun k hk => by simp [Value.ownBlock] at hk)

theorem nil_own (k : Nat) : (Value.slice none 0 0).ownBlock ≠ some k := by simp [Value.ownBlock]

theorem zero_new (w : World) : Zero (w.alloc (.cells z60 60)) w.heap.size 0 := by
  refine ⟨?_, ?_, ?_, ?_, ?_, ?_, ?_, ?_, ?_, ?_, ?_⟩ <;> simp [go_sem, z60]

set_option maxHeartbeats 3200000 in
theorem prop_walk (b off : Nat) (n c : Nat) (zs : List Int) (sel : Int) (a2 : Option Addr) (m c2 : Nat) (ys : List Int) (w : World) (n0 : 0 < n) (hn : n ≤ 1024) (hnz : zs.length = n)
    (hq : ∀ j, j < n → w.cell? ⟨b, off + j, none⟩ = some (.int .i64 (zs.getD j 0))) (s0 : 0 ≤ sel) (s1 : sel ≤ 255) (hm : m ≤ 1024) (hym : ys.length = m) (hy : Lies w a2 ys) :
    Calls Yba.prog 4 #[.slice (some ⟨b, off, none⟩) n c, .int .u8 sel, .slice a2 m c2] w fun e w' => e = .returned (.bool true) ∧ Below w.heap.size w w' := by
  obtain ⟨i3, j0, j1, j2, j3⟩ := info_parts Yba.info3
  have hmk := make60 n hn
  have hne : ((n : Int) == 0) = false := by simp; omega
  obtain ⟨i, hi, hin⟩ : ∃ i : Nat, sel % (n : Int) = (i : Int) ∧ i < n := by
    have h1 := Int.emod_nonneg sel (b := (n : Int)) (by omega)
    have h2 := Int.emod_lt_of_pos sel (b := (n : Int)) (by omega)
    exact ⟨(sel % (n : Int)).toNat, by omega, by omega⟩
  have hqs : ∀ W : World, Below w.heap.size w W → ∀ j u, (zs.map (Value.int .i64))[j]? = some u → W.cell? ((⟨b, off, none⟩ : Addr).add j) = some u := fun W hB j u hj => by
    simp only [List.getElem?_map, Option.map_eq_some_iff] at hj
    obtain ⟨a, ha, rfl⟩ := hj
    have hlt : j < n := by rw [← hnz]; exact (List.getElem?_eq_some_iff.1 ha).1
    have hc := hq j hlt
    rw [Addr.add_lit, hB.cell (World.block_lt_of_cell? _ _ hc), hc]
    simp [List.getD, ha]
  have h1c : ∀ u ∈ zs.map (Value.int .i64), u.oneCell' = true := fun u hu => by
    obtain ⟨_, _, rfl⟩ := List.mem_map.1 hu
    rfl
  have n0' : 0 < 0 + n := by omega
  have b1 : 0 + n ≤ maxLen := by unfold maxLen; omega
  have b2 : (0 + n) * 8 ≤ 140737488355328 := by omega
  have hqi := hq i hin
  generalize hz : zs.getD i 0 = z at hqi
  have hzH : Hid (zs.getD i 0 = z) := hz
  clear hz
  go_enter Yba.func4, Yba.ntmps4
  go_upto_region 3 with fail
  go_cut [7] from 26 to 32 (fun s7 wx => ∃ sb pb qb cq, s7 = .pointer (some ⟨sb, 0, none⟩) ∧ Built w wx n zs sb pb qb cq)
  case first =>
    go_region_law (refine step_append_grows rfl (.const (.slice none 0 0)) (.tmp 29) 31 rfl 3 i3 (.int .i64 0) 1 8 Yba.underlying31 j0 j1 j2 j3 rfl (by decide) none 0 0 [] rfl (fun _ => ⟨rfl, rfl⟩) rfl (fun b h => by cases h) ⟨b, off, none⟩ n c (zs.map (Value.int .i64)) rfl (by simp; omega) (hqs _ (by first | exact (Below.refl _ _).drew | exact ((Below.refl _ _).alloc (Nat.le_refl _) _).drew)) h1c n0' b1 b2 ?_; intro v' w' hown hgrow; obtain ⟨g, cq, hv, hg1, hg2, hgc⟩ := owned_form hown n0 hnz; rw [hv])
    all_goals (go_wp2_with fail; go_meet; first | exact ⟨_, _, _, _, rfl, built_A (ofDrew hgrow) hg2 hgc⟩ | exact ⟨_, _, _, _, rfl, built_B (ofDrew hgrow) hg2 hgc⟩)
  case rest =>
    obtain ⟨sb, pb, qb, cq, rfl, hB⟩ := hcut
    clear hmk hqs h1c n0' b1 b2 j0 j1 j2 j3
    have hS := hB.st i hin
    rw [hzH.out] at hS
    have hBb := hB.below
    clear hB
    go_wp2_with (at_builtin; refine wpList_append_step rfl _ _ rfl (.slice none 0 0) [] rfl (Has.nil _) a2 m c2 ys rfl hym ?g1 ?g2 ?_)
    case g1 => exact hy.below hBb
    case g2 => simp; omega
    intro v1 w1 T1
    have hS1 := hS.step T1 (nil_own _) (nil_own _) (nil_own _)
    have k1 := T1.away (World.block_lt_of_cell? _ _ hS.s2) (nil_own _)
    have k2 := T1.away hS.zero.lt (nil_own _)
    have k3 := T1.away (World.block_lt_of_cell? _ _ hS.q) (nil_own _)
    go_wp2_with fail
    refine (local_prop _ sb pb qb n cq i z v1 ys _ (hS1.alloc _) hin (T1.own.alloc _) k1 k2 k3 (by omega)).mono ?_
    rintro e w2 ⟨v2, rfl, T2⟩
    have T12 := T1.trans T2.ofAlloc
    have B2 : Below w.heap.size w w2 := hBb.trans (T12.belowNil hBb.size)
    have G2 := T2.own
    clear T1 T2 hS hS1 k1 k2 k3 T12 hBb
    go_wp2_with (at_builtin; refine wpList_append_step rfl _ _ rfl (.slice none 0 0) [] rfl (Has.nil _) a2 m c2 ys rfl hym ?g1 ?g2 ?_)
    case g1 => exact hy.below B2
    case g2 => simp; omega
    intro v3 w3 T3
    obtain ⟨G3, d3⟩ := T3.keeps G2 (fun k _ => nil_own k)
    have B3 : Below w.heap.size w w3 := B2.trans (T3.belowNil B2.size)
    have q3 : w3.cell? ⟨b, off + i, none⟩ = some (.int .i64 z) := (B3.cell (World.block_lt_of_cell? _ _ hqi)).trans hqi
    go_wp2_with fail
    rw [u64of_eq]
    refine (uvarint_step (u64of z) (u64of_lt z) v3 ys w3 T3.own (by omega)).mono ?_
    rintro e w4 ⟨v4, rfl, T4⟩
    obtain ⟨G4, d4⟩ := T4.keeps G3 d3
    have T34 := T3.trans T4
    have B4 : Below w.heap.size w w4 := B2.trans (T34.belowNil B2.size)
    have q4 : w4.cell? ⟨b, off + i, none⟩ = some (.int .i64 z) := (B4.cell (World.block_lt_of_cell? _ _ hqi)).trans hqi
    have hl10 := uvz_length (u64of_lt z)
    clear T3 T4 G3 d3 B3 q3 G2
    by_cases hz0 : z = 0
    · have hz1 : (z != 0) = false := by simpa using hz0
      have ht : Hid (tail z = []) := if_pos hz0
      clear hz0
      rw [ht.out, List.append_nil] at G4
      go_wp2_with fail
      refine (equal_same v2 v4 (ys ++ uvz (u64of z)) w4 G4 T34.own).mono ?_
      rintro e w' ⟨rfl, hw⟩
      replace hw := hw.symm
      subst hw
      go_wp2
      go_ret
      exact ⟨rfl, B4⟩
    · have hz1 : (z != 0) = true := by simpa using hz0
      have ht : Hid (tail z = zst) := if_neg hz0
      clear hz0
      rw [ht.out, ← List.append_assoc] at G4
      go_wp2_with fail
      refine (state_zero w4.heap.size 0 v4 (ys ++ uvz (u64of z)) _ (zero_new w4) (T34.own.alloc _) (fun e => by have := T34.own.lt e; omega) (by simp; omega)).mono ?_
      rintro e w5 ⟨v5, rfl, T5⟩
      obtain ⟨G5, _⟩ := T5.keeps (G4.alloc _) d4
      have B5 : Below w.heap.size w w5 := B2.trans ((T34.trans T5.ofAlloc).belowNil B2.size)
      go_wp2_with fail
      refine (equal_same v2 v5 (ys ++ uvz (u64of z) ++ zst) w5 G5 T5.own).mono ?_
      rintro e w' ⟨rfl, hw⟩
      replace hw := hw.symm
      subst hw
      go_wp2
      go_ret
      exact ⟨rfl, B5⟩

end Go.Proofs.Ybulkrmk
