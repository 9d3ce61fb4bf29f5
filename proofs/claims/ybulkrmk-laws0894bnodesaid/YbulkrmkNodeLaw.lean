/-
  THE WALK of explore.LawS0894BNode: it returns true; nothing that was there turns.
-/
import Derived.Test.YbulkrmkInv
import Derived.Deep.CutRange
import Derived.Deep.RegionLaw
import Derived.RegionTactic
import Derived.ProofKit
namespace Go.Proofs.Ybulkrmk
open Go.RowKit

theorem Yba.info40 : (Yba.prog.info? 40).map (fun i => (i.zero, i.size, i.bytes)) = some (some (.agg #[.int .u64 0, .int .i64 0, .int .u64 0, .int .i64 0, .slice none 0 0]), 5, 56) := by kernel_rfl
theorem Yba.info42 : (Yba.prog.info? 42).map (fun i => (i.zero, i.size, i.bytes)) = some (some (.agg #[.slice none 0 0]), 1, 24) := by kernel_rfl

def row40 (n : Nat) : Array Value := madeCells #[.int .u64 0, .int .i64 0, .int .u64 0, .int .i64 0, .slice none 0 0] (n * 5)
def row42 (n : Nat) : Array Value := madeCells #[.slice none 0 0] n
theorem row40_size (n : Nat) : (row40 n).size = n * 5 := size_madeCells _ _
theorem row42_size (n : Nat) : (row42 n).size = n := size_madeCells _ _

theorem make40 (n : Nat) (hn : n ≤ 1024) (w : World) : (Instr.makeSlice 28 (.int .i64 (n : Int)) (.int .i64 (n : Int))).run Yba.prog w = .ok (.slice (some ⟨w.heap.size, 0, none⟩) n n) (w.alloc (.cells (row40 n) 40)) := by
  obtain ⟨i0, hi, hz0, hz1, hz2⟩ := info_parts Yba.info40
  have := run_make (P := Yba.prog) w 28 40 i0 _ Yba.underlying28 hi hz0 .i64 .i64 (n : Int) (n : Int) (by omega) (by omega) (by rw [hz2]; omega) (by omega)
  rw [this, hz1]
  simp [row40, Value.cells]

theorem make42 (n : Nat) (hn : n ≤ 1024) (w : World) : (Instr.makeSlice 29 (.int .i64 (n : Int)) (.int .i64 (n : Int))).run Yba.prog w = .ok (.slice (some ⟨w.heap.size, 0, none⟩) n n) (w.alloc (.cells (row42 n) 42)) := by
  obtain ⟨i0, hi, hz0, hz1, hz2⟩ := info_parts Yba.info42
  have := run_make (P := Yba.prog) w 29 42 i0 _ Yba.underlying29 hi hz0 .i64 .i64 (n : Int) (n : Int) (by omega) (by omega) (by rw [hz2]; omega) (by omega)
  rw [this, hz1]
  simp [row42, Value.cells]

/-- The state's own cells. -/
def nCells (n ab lb : Nat) : Array Value := #[.slice (some ⟨ab, 0, none⟩) n n, .slice (some ⟨lb, 0, none⟩) n n, .slice none 0 0, .slice none 0 0, .slice none 0 0, .slice none 0 0, .int .i64 0]

theorem inv_of {w wr : World} {n t : Nat} {a : Acc} {sb ab lb : Nat} (hB : Below w.heap.size w wr) (nsb : w.heap.size ≤ sb) (nab : w.heap.size ≤ ab) (nlb : w.heap.size ≤ lb) (d1 : sb ≠ ab) (d2 : sb ≠ lb) (d3 : ab ≠ lb)
    (hs : wr.heap[sb]? = some (.cells (nCells n ab lb) 35 (0, 0))) (ha : wr.heap[ab]? = some (.cells (row40 n) 40 (0, 0))) (hl : wr.heap[lb]? = some (.cells (row42 n) 42 (0, 0))) : Inv w wr n 0 0 t a sb ab lb := by
  refine ⟨hB, nsb, nab, nlb, d1, d2, d3, by simp [World.cell?, hs, nCells], by simp [World.cell?, hs, nCells], fun q hq => ?_, fun q hq => ?_, fun h => by omega, fun h => by omega⟩
  · have hq' : q < (row40 n).size := by rw [row40_size]; exact hq
    exact ⟨(row40 n)[q], by simp [World.cell?, ha, hq'], by simp [World.frozen?, ha]⟩
  · have hq' : q < (row42 n).size := by rw [row42_size]; exact hq
    exact ⟨(row42 n)[q], by simp [World.cell?, hl, hq'], by simp [World.frozen?, hl]⟩

theorem three_blocks (w : World) (o1 o2 o3 : Obj) : Below w.heap.size w (((w.alloc o1).alloc o2).alloc o3) ∧ (((w.alloc o1).alloc o2).alloc o3).heap[w.heap.size]? = some o1 ∧ (((w.alloc o1).alloc o2).alloc o3).heap[w.heap.size + 1]? = some o2 ∧ (((w.alloc o1).alloc o2).alloc o3).heap[w.heap.size + 2]? = some o3 := by
  refine ⟨(((Below.refl _ _).alloc (Nat.le_refl _) _).alloc (by simp) _).alloc (by simp; omega) _, ?_, ?_, ?_⟩
  · rw [Below.heap_alloc _ o3 _ (by simp; omega), Below.heap_alloc _ o2 _ (by simp)]
    exact heap_alloc_new w _
  · rw [Below.heap_alloc _ o3 _ (by simp)]
    have := heap_alloc_new (w.alloc o1) o2
    simpa using this
  · have := heap_alloc_new ((w.alloc o1).alloc o2) o3
    simpa using this

theorem inv_A (w : World) (n t : Nat) (a : Acc) : Inv w (((w.alloc (.cells (row40 n) 40)).alloc (.cells (row42 n) 42)).alloc (.cells (nCells n w.heap.size (w.heap.size + 1)) 35)) n 0 0 t a (w.heap.size + 2) w.heap.size (w.heap.size + 1) := by
  obtain ⟨hB, h1, h2, h3⟩ := three_blocks w (.cells (row40 n) 40) (.cells (row42 n) 42) (.cells (nCells n w.heap.size (w.heap.size + 1)) 35)
  exact inv_of hB (by omega) (by omega) (by omega) (by omega) (by omega) (by omega) h3 h1 h2

theorem inv_B (w : World) (n t : Nat) (a : Acc) : Inv w (((w.alloc (.cells (row42 n) 42)).alloc (.cells (row40 n) 40)).alloc (.cells (nCells n (w.heap.size + 1) w.heap.size) 35)) n 0 0 t a (w.heap.size + 2) (w.heap.size + 1) w.heap.size := by
  obtain ⟨hB, h1, h2, h3⟩ := three_blocks w (.cells (row42 n) 42) (.cells (row40 n) 40) (.cells (nCells n (w.heap.size + 1) w.heap.size) 35)
  exact inv_of hB (by omega) (by omega) (by omega) (by omega) (by omega) (by omega) h3 h2 h1

theorem Inv.drew {w wr : World} {n ka kl t : Nat} {a : Acc} {sb ab lb : Nat} (h : Inv w wr n ka kl t a sb ab lb) : Inv w wr.drew n ka kl t a sb ab lb := h.kept (Below.refl _ _).drew

/-- zzs0894bcopy, its value written out as a slice. -/
theorem copy_slice (ao : Option Addr) (c : Nat) (bs : List Int) (has : Bool) (w : World) (hlies : Lies w ao bs) (hl : bs.length ≤ 2000) :
    Calls Yba.prog 5 #[.slice ao bs.length c, .bool has] w fun e w' => ∃ ao' m' c', e = .returned (.slice ao' m' c') ∧ Copied w' (.slice ao' m' c') has bs ∧ Below w.heap.size w w' ∧ (∀ g n c'', Value.slice ao' m' c' = .slice (some ⟨g, 0, none⟩) n c'' → w.heap.size ≤ g ∧ g < w'.heap.size) := by
  refine (copy_any ao c bs has w hlies hl).mono ?_
  rintro e w' ⟨v, rfl, hc, hB, hn⟩
  rcases id hc with ⟨_, rfl⟩ | ⟨_, g, c', rfl, _⟩
  · exact ⟨_, _, _, rfl, hc, hB, hn⟩
  · exact ⟨_, _, _, rfl, hc, hB, hn⟩

/-- Where the box of 'a' lies. -/
structure Box (w : World) (b : Nat) (a : Acc) : Prop where
  c0 : w.cell? ⟨b, 0, none⟩ = some (.int .u64 a.pr)
  c1 : w.cell? ⟨b, 1, none⟩ = some (.int .i64 a.pn)
  c2 : w.cell? ⟨b, 2, none⟩ = some (.int .u64 a.vr)
  c3 : w.cell? ⟨b, 3, none⟩ = some (.int .i64 a.vn)
  c4 : w.cell? ⟨b, 4, none⟩ = some (.slice a.vo a.vb.length a.vc)
  c5 : w.cell? ⟨b, 5, none⟩ = some (.bool a.hv)
  c6 : w.cell? ⟨b, 6, none⟩ = some (.slice a.lo a.lb.length a.lc)
  c7 : w.cell? ⟨b, 7, none⟩ = some (.bool a.hl)

/-- The box's block. -/
def boxOf (a : Acc) : Obj := .cells #[.int .u64 a.pr, .int .i64 a.pn, .int .u64 a.vr, .int .i64 a.vn, .slice a.vo a.vb.length a.vc, .bool a.hv, .slice a.lo a.lb.length a.lc, .bool a.hl] 26

theorem box_new (w : World) (a : Acc) : Box (w.alloc (boxOf a)) w.heap.size a := by
  refine ⟨?_, ?_, ?_, ?_, ?_, ?_, ?_, ?_⟩ <;> simp [go_sem, boxOf]

theorem Box.kept {w w' : World} {b : Nat} {a : Acc} (h : Box w b a) (hB : Below w.heap.size w w') : Box w' b a :=
  ⟨kept_cell hB h.c0, kept_cell hB h.c1, kept_cell hB h.c2, kept_cell hB h.c3, kept_cell hB h.c4, kept_cell hB h.c5, kept_cell hB h.c6, kept_cell hB h.c7⟩

theorem Box.set {w : World} {b : Nat} {a : Acc} (h : Box w b a) {b' q : Nat} (hne : b ≠ b') (v : Value) : Box (w.setCell ⟨b', q, none⟩ v) b a :=
  ⟨set_other h.c0 (.inl hne), set_other h.c1 (.inl hne), set_other h.c2 (.inl hne), set_other h.c3 (.inl hne), set_other h.c4 (.inl hne), set_other h.c5 (.inl hne), set_other h.c6 (.inl hne), set_other h.c7 (.inl hne)⟩

theorem below_box (w : World) (o : Obj) : Below w.heap.size w (w.alloc o).drew := ((Below.refl _ _).alloc (Nat.le_refl _) _).drew

theorem nil_own (k : Nat) : (Value.slice none 0 0).ownBlock ≠ some k := by simp [Value.ownBlock]

theorem Step.belowNil {w w' : World} {v' : Value} {l' : List Int} (h : Step w (.slice none 0 0) w' v' l') {B : Nat} (hB : B ≤ w.heap.size) : Below B w w' := h.below hB (fun k hk => by simp [Value.ownBlock] at hk)

/-- Another slice of the call's own is left alone by a step. -/
theorem Step.keepsNil {w w' : World} {v' u : Value} {l' m : List Int} (hst : Step w (.slice none 0 0) w' v' l') (h : Has w u m) : Has w' u m := by
  refine h.kept hst.grown ?_
  cases hu : u.ownBlock with
  | none => exact .inl rfl
  | some k => exact .inr (by simp [Value.ownBlock])

theorem Box.step {w w' : World} {v' : Value} {l' : List Int} {b : Nat} {a : Acc} (h : Box w b a) (hst : Step w (.slice none 0 0) w' v' l') : Box w' b a :=
  ⟨hst.cell h.c0 (nil_own _), hst.cell h.c1 (nil_own _), hst.cell h.c2 (nil_own _), hst.cell h.c3 (nil_own _), hst.cell h.c4 (nil_own _), hst.cell h.c5 (nil_own _), hst.cell h.c6 (nil_own _), hst.cell h.c7 (nil_own _)⟩

theorem zbytes_any (v : Value) (l : List Int) (w : World) (hown : Has w v l) (hlim : l.length ≤ 90000) (has : Bool) (ao : Option Addr) (c : Nat) (news : List Int) (hn : news.length ≤ 2000) (hlies : Lies w ao news) (hap : Apart v ao news) :
    Calls Yba.prog 9 #[v, .slice ao news.length c, .bool has] w fun e w' => ∃ v', e = .returned v' ∧ Step w v w' v' (l ++ enc? has news) := by
  cases has
  · exact zbytes_no v l w hown hlim _
  · exact zbytes_yes v l w hown hlim ao c news hn hlies hap

set_option maxRecDepth 100000 in
set_option maxHeartbeats 6400000 in
theorem node_walk (b off : Nat) (n c : Nat) (xs : Nat → Acc) (sel : Int) (a2 : Option Addr) (m c2 : Nat) (ys : List Int) (w : World) (n0 : 0 < n) (hn : n ≤ 1024)
    (hA : ∀ j, j < n → (xs j).At w b (off + j * 8)) (s0 : 0 ≤ sel) (s1 : sel ≤ 255) (hm : m ≤ 1024) (hym : ys.length = m) (hy : Lies w a2 ys) :
    Calls Yba.prog 3 #[.slice (some ⟨b, off, none⟩) n c, .int .u8 sel, .slice a2 m c2] w fun e w' => e = .returned (.bool true) ∧ Below w.heap.size w w' := by
  have hne : ((n : Int) == 0) = false := by simp; omega
  have hm4 := make40 n hn
  have hm2 := make42 n hn
  obtain ⟨t, ht, htn⟩ : ∃ t : Nat, sel % (n : Int) = (t : Int) ∧ t < n := by
    have h1 := Int.emod_nonneg sel (b := (n : Int)) (by omega)
    have h2 := Int.emod_lt_of_pos sel (b := (n : Int)) (by omega)
    exact ⟨(sel % (n : Int)).toNat, by omega, by omega⟩
  go_enter Yba.func3, Yba.ntmps3
  go_wp2_with fail
  go_loop [31] (fun v => ∃ k : Nat, k ≤ n ∧ v = .int .i64 k ∧ ∀ j, j < k → (xs j).vb.length ≤ 1024 ∧ (xs j).lb.length ≤ 1024) (fun v => n - (intOf v).toNat)
  case atStart => exact ⟨0, Nat.zero_le _, rfl, fun j hj => by omega⟩
  case round =>
    obtain ⟨k, hk, rfl, hall⟩ := hrel
    by_cases hlt : k < n
    · obtain ⟨c0, c1, c2', c3, c4, c5, c6, c7, _, _, _, _, _, _, _, _⟩ := hA k hlt
      by_cases h1 : (xs k).vb.length ≤ 1024
      · by_cases h2 : (xs k).lb.length ≤ 1024
        · go_wp2
          go_round
          case rel => exact ⟨k + 1, by omega, by go_num, fun j hj => by
            by_cases e : j = k
            · subst e; exact ⟨h1, h2⟩
            · exact hall j (by omega)⟩
          case measure => simp [intOf]; omega
        · have e1 : ¬ (1024 : Int) < ((xs k).vb.length : Int) := by omega
          have e2 : (1024 : Int) < ((xs k).lb.length : Int) := by omega
          go_wp2
          go_ret
          exact ⟨rfl, Below.refl _ _⟩
      · have e1 : (1024 : Int) < ((xs k).vb.length : Int) := by omega
        go_wp2
        go_ret
        exact ⟨rfl, Below.refl _ _⟩
    · have hkn : n = k := by omega
      subst hkn
      go_upto_region 9 with fail
      go_cut [8] from 51 to 58 (fun s8 wx => ∃ sb ab lb, s8 = .pointer (some ⟨sb, 0, none⟩) ∧ Inv w wx n 0 0 t (xs t) sb ab lb)
      case first =>
        go_region
        all_goals (go_wp2_with fail; go_meet; first | exact ⟨_, _, _, rfl, (inv_A w n t (xs t)).drew⟩ | exact ⟨_, _, _, rfl, (inv_B w n t (xs t)).drew⟩)
      case rest =>
        obtain ⟨sb, ab, lb, rfl, hI⟩ := hcut
        clear hm4 hm2
        go_wp2_with fail
        go_loopw [61] (fun v wr => ∃ k : Nat, k ≤ n ∧ v = .int .i64 k ∧ Inv w wr n k k t (xs t) sb ab lb) (fun v _ => n - (intOf v).toNat)
        case atStart => exact ⟨0, Nat.zero_le _, rfl, hI⟩
        case round =>
          obtain ⟨k, hk, rfl, hI⟩ := hrel
          by_cases hlt : k < n
          · have hAk := (hA k hlt).kept hI.below
            have hak := hall k hlt
            obtain ⟨c0, c1, c2', c3, c4, c5, c6, c7, lV, lL, _, _, _, _, _, _⟩ := id hAk
            have i0 : (0 : Int) ≤ (k : Int) := by omega
            have i1 : (k : Int) < (n : Int) := by omega
            go_wp2_with fail
            clear c0 c1 c2' c3 c4 c5 c6 c7
            have B1 := below_box wr (boxOf (xs k))
            have I1 := hI.kept B1
            have X1 : Box (wr.alloc (boxOf (xs k))).drew wr.heap.size (xs k) := (box_new wr (xs k)).kept (Below.refl _ _).drew
            have hC := copy_slice (xs k).vo (xs k).vc (xs k).vb (xs k).hv _ (lV.kept B1) (by omega)
            have hs0 := I1.s0
            obtain ⟨x0, x1, x2, x3, x4, x5, x6, x7⟩ := id X1
            have abl : ab < wr.heap.size := by
              obtain ⟨u, hu, _⟩ := hI.tha 0 (by omega)
              exact World.block_lt_of_cell? _ _ hu
            have lbl : lb < wr.heap.size := by
              obtain ⟨u, hu, _⟩ := hI.thl 0 (by omega)
              exact World.block_lt_of_cell? _ _ hu
            have sbl : sb < wr.heap.size := World.block_lt_of_cell? _ _ hI.s0
            have q1 : ¬ sb = ab := hI.d1
            have q2 : ¬ wr.heap.size = ab := by omega
            have q3 : ¬ ab = sb := fun e => hI.d1 e.symm
            have q4 : ¬ ab = wr.heap.size := by omega
            unfold boxOf at hs0 x0 x1 x2 x3 x4 x5 x6 x7 hC
            go_region_held3 (fun w' => w'.cell? ⟨sb, 0, none⟩ = some (.slice (some ⟨ab, 0, none⟩) n n) ∧ w'.cell? ⟨wr.heap.size, 0, none⟩ = some (.int .u64 (xs k).pr) ∧ w'.cell? ⟨wr.heap.size, 1, none⟩ = some (.int .i64 (xs k).pn) ∧ w'.cell? ⟨wr.heap.size, 2, none⟩ = some (.int .u64 (xs k).vr) ∧ w'.cell? ⟨wr.heap.size, 3, none⟩ = some (.int .i64 (xs k).vn) ∧ w'.cell? ⟨wr.heap.size, 4, none⟩ = some (.slice (xs k).vo (xs k).vb.length (xs k).vc) ∧ w'.cell? ⟨wr.heap.size, 5, none⟩ = some (.bool (xs k).hv)) (go_keep) (first | (go_at_call 5; refine hC.mono ?_; rintro e w2 ⟨ao', m', c', rfl, hcp, hbel, hnew⟩; have I2 := I1.kept hbel; have X2 := X1.kept hbel; obtain ⟨u0, e0, f0⟩ := I2.tha (k * 5) (by omega); obtain ⟨u1, e1, f1⟩ := I2.tha (k * 5 + 1) (by omega); obtain ⟨u2, e2, f2⟩ := I2.tha (k * 5 + 2) (by omega); obtain ⟨u3, e3, f3⟩ := I2.tha (k * 5 + 3) (by omega); obtain ⟨u4, e4, f4⟩ := I2.tha (k * 5 + 4) (by omega); have y0 := I2.s0; obtain ⟨z0, z1, z2, z3, z4, z5, z6, z7⟩ := id X2))
            have I3 := I2.layA hlt (xs k).pr (xs k).vr (xs k).pn (xs k).vn (.slice ao' m' c') (fun e => by
              subst e
              refine ⟨rfl, rfl, rfl, rfl, hcp, fun g n' c'' he => ?_⟩
              obtain ⟨hg1, hg2⟩ := hnew g n' c'' he
              simp at hg1
              exact ⟨by omega, by omega, by omega, hg2, by have := hI.below.size; omega⟩)
            have X3 := ((((X2.set q2 (q := k * 5) (.int .u64 (xs k).pr)).set q2 (q := k * 5 + 1) (.int .i64 (xs k).pn)).set q2 (q := k * 5 + 2) (.int .u64 (xs k).vr)).set q2 (q := k * 5 + 3) (.int .i64 (xs k).vn)).set q2 (q := k * 5 + 4) (.slice ao' m' c')
            generalize (((((w2.setCell ⟨ab, k * 5, none⟩ (.int .u64 (xs k).pr)).setCell ⟨ab, k * 5 + 1, none⟩ (.int .i64 (xs k).pn)).setCell ⟨ab, k * 5 + 2, none⟩ (.int .u64 (xs k).vr)).setCell ⟨ab, k * 5 + 3, none⟩ (.int .i64 (xs k).vn)).setCell ⟨ab, k * 5 + 4, none⟩ (.slice ao' m' c')) = w3 at I3 X3 ⊢
            clear hC hs0 x0 x1 x2 x3 x4 x5 x6 x7 I1 X1 B1 hcp hbel hnew I2 X2 e0 f0 e1 f1 e2 f2 e3 f3 e4 f4 y0 z0 z1 z2 z3 z4 z5 z6 z7
            have B3 := (Below.refl w3.heap.size w3).drew
            have I3d := I3.kept B3
            have X3d := X3.kept B3
            have hC := copy_slice (xs k).lo (xs k).lc (xs k).lb (xs k).hl w3.drew (((hA k hlt).liesL.kept I3.below).kept B3) (by omega)
            have hs1 := I3.s1
            have x6 := X3.c6
            have x7 := X3.c7
            have r1 : ¬ sb = lb := I3.d2
            have r2 : ¬ wr.heap.size = lb := by omega
            have r3 : ¬ lb = sb := fun e => I3.d2 e.symm
            have r4 : ¬ lb = wr.heap.size := by omega
            have sz3 : wr.heap.size < w3.heap.size := World.block_lt_of_cell? _ _ X3.c0
            go_wp2_with fail
            go_region_held3 (fun w' => w'.cell? ⟨sb, 1, none⟩ = some (.slice (some ⟨lb, 0, none⟩) n n) ∧ w'.cell? ⟨wr.heap.size, 6, none⟩ = some (.slice (xs k).lo (xs k).lb.length (xs k).lc) ∧ w'.cell? ⟨wr.heap.size, 7, none⟩ = some (.bool (xs k).hl)) (go_keep) (first | (go_at_call 5; refine hC.mono ?_; rintro e w4 ⟨ao2, m2, c3, rfl, hcp, hbel, hnew⟩; have I4 := I3d.kept hbel; have X4 := X3d.kept hbel; obtain ⟨u0, e0, f0⟩ := I4.thl k hlt; have y0 := I4.s1; have z6 := X4.c6; have z7 := X4.c7))
            have I5 := I4.layL hlt (.slice ao2 m2 c3) (fun e => by
              subst e
              refine ⟨hcp, fun g n' c'' he => ?_⟩
              obtain ⟨hg1, hg2⟩ := hnew g n' c'' he
              simp at hg1
              exact ⟨by omega, by omega, by omega, hg2, by have := hI.below.size; omega⟩)
            clear hC hs1 x6 x7 I3d X3d B3 hcp hbel hnew I4 X4 y0 z6 z7
            go_wp2
            go_roundw
            case rel => exact ⟨k + 1, by omega, by go_num, I5⟩
            case measure => simp [intOf]; omega
          · have hkn : n = k := by omega
            subst hkn
            obtain ⟨x, hx0, hx1, hx2⟩ := hI.acc htn
            obtain ⟨y, hy0, hy1, hy2⟩ := hI.lrn htn
            have N0 : Nd wr sb ab lb n t (xs t).pr (xs t).vr (xs t).pn (xs t).vn x y := ⟨hI.s0, hI.s1, hx0, hy0⟩
            have hbel := hI.below
            have lt5 := hall t htn
            have hAt := hA t htn
            clear hI hx0 hy0
            go_wp2_with (at_builtin; refine wpList_append_step rfl _ _ rfl (.slice none 0 0) [] rfl (Has.nil _) a2 m c2 ys rfl hym ?g1 ?g2 ?_)
            case g1 => exact hy.kept hbel
            case g2 => simp; omega
            intro v1 w1 T1
            go_wp2_with fail
            have T1a := T1.alloc (.cells #[.int .i64 0, .int .i64 0, .int .i64 0, .int .i64 0, .int .i64 0, .bool false, .slice none 0 0, .map none] 49)
            have N1 := N0.step T1a (nil_own _) (nil_own _) (nil_own _)
            have ox : Off (.slice none 0 0) x := fun g _ _ _ => nil_own g
            have oy : Off (.slice none 0 0) y := fun g _ _ _ => nil_own g
            have tx : There wr x := fun g n' c' e => (hx2 g n' c' e).2.2.2.1
            have ty : There wr y := fun g n' c' e => (hy2 g n' c' e).2.2.2.1
            have k1 := T1a.away (World.block_lt_of_cell? _ _ N0.s0) (nil_own _)
            have k2 := T1a.away (World.block_lt_of_cell? _ _ N0.acc.c0) (nil_own _)
            have k3 := T1a.away (World.block_lt_of_cell? _ _ N0.lrn) (nil_own _)
            refine (local_node _ sb ab lb n t (xs t).pr (xs t).vr (xs t).pn (xs t).vn x y v1 ys _ N1 (xs t).hv (xs t).hl (xs t).vb (xs t).lb (hx1.step T1a ox) (tx.step T1a) (ox.step T1a tx) (hy1.step T1a oy) (ty.step T1a) (oy.step T1a ty) (by omega) (by omega) htn hn T1a.own k1 k2 k3 (by omega) hAt.pr1 hAt.vr1 hAt.pn0 hAt.pn1 hAt.vn0 hAt.vn1).mono ?_
            rintro e w2 ⟨v2, rfl, T2⟩
            have T12 := T1a.trans T2
            have B2 : Below w.heap.size w w2 := hbel.trans (T12.belowNil hbel.size)
            have G2 := T2.own
            clear T1 T1a T2 T12 N0 N1 ox oy tx ty k1 k2 k3 hx1 hx2 hy1 hy2 hbel
            have hA2 := hAt.kept B2
            obtain ⟨c0, c1, c2', c3, c4, c5, c6, c7, _, _, _, _, _, _, _, _⟩ := id hA2
            go_wp2_with (at_builtin; refine wpList_append_step rfl _ _ rfl (.slice none 0 0) [] rfl (Has.nil _) a2 m c2 ys rfl hym ?g1 ?g2 ?_)
            case g1 => exact (hy.kept B2).alloc _
            case g2 => simp; omega
            intro v3 w3 T3
            clear c0 c1 c2' c3 c4 c5 c6 c7
            have X2 : Box (w2.alloc (boxOf (xs t))) w2.heap.size (xs t) := box_new w2 (xs t)
            have G2a : Has (w2.alloc (boxOf (xs t))) v2 _ := G2.alloc _
            have B2a : Below w.heap.size w (w2.alloc (boxOf (xs t))) := B2.trans ((Below.refl _ _).alloc B2.size _)
            unfold boxOf at X2 G2a B2a
            have hlz1 := uvz_length hAt.pr1
            have hlz2 := uvz_length (Lib.zigzag_lt hAt.pn0 hAt.pn1)
            have hlz3 := uvz_length hAt.vr1
            have hlz4 := uvz_length (Lib.zigzag_lt hAt.vn0 hAt.vn1)
            have hlz5 := enc_length (xs t).hv (xs t).vb (by omega)
            have x0 := (X2.step T3).c0
            go_wp2_with fail
            refine (uvarint_step (xs t).pr hAt.pr1 v3 ys w3 T3.own (by omega)).mono ?_
            rintro e w4 ⟨v4, rfl, T4⟩
            have T34 := T3.trans T4
            clear T3 T4 x0
            have x1 := (X2.step T34).c1
            go_wp2_with fail
            refine (varint_step (xs t).pn hAt.pn0 hAt.pn1 v4 (ys ++ uvz (xs t).pr) w4 T34.own (by simp; omega)).mono ?_
            rintro e w5 ⟨v5, rfl, T5⟩
            have T35 := T34.trans T5
            clear T34 T5 x1
            have x2 := (X2.step T35).c2
            go_wp2_with fail
            refine (uvarint_step (xs t).vr hAt.vr1 v5 (ys ++ uvz (xs t).pr ++ uvz (Lib.zigzag (xs t).pn)) w5 T35.own (by simp; omega)).mono ?_
            rintro e w6 ⟨v6, rfl, T6⟩
            have T36 := T35.trans T6
            clear T35 T6 x2
            have x3 := (X2.step T36).c3
            go_wp2_with fail
            refine (varint_step (xs t).vn hAt.vn0 hAt.vn1 v6 (ys ++ uvz (xs t).pr ++ uvz (Lib.zigzag (xs t).pn) ++ uvz (xs t).vr) w6 T36.own (by simp; omega)).mono ?_
            rintro e w7 ⟨v7, rfl, T7⟩
            have T37 := T36.trans T7
            clear T36 T7 x3
            have x4 := (X2.step T37).c4
            have x5 := (X2.step T37).c5
            have L7 : Lies (w2.alloc (boxOf (xs t))) (xs t).vo (xs t).vb := hAt.liesV.kept B2a
            have M7 : Lies (w2.alloc (boxOf (xs t))) (xs t).lo (xs t).lb := hAt.liesL.kept B2a
            unfold boxOf at L7 M7
            have p7 : Apart (.slice none 0 0) (xs t).vo (xs t).vb := fun _ ad _ => nil_own _
            have p8 : Apart (.slice none 0 0) (xs t).lo (xs t).lb := fun _ ad _ => nil_own _
            go_wp2_with fail
            refine (zbytes_any v7 (ys ++ uvz (xs t).pr ++ uvz (Lib.zigzag (xs t).pn) ++ uvz (xs t).vr ++ uvz (Lib.zigzag (xs t).vn)) w7 T37.own (by simp; omega) (xs t).hv (xs t).vo (xs t).vc (xs t).vb (by omega) (L7.step T37 p7) (p7.step T37 L7)).mono ?_
            rintro e w8 ⟨v8, rfl, T8⟩
            have T38 := T37.trans T8
            clear T37 T8 x4 x5
            have x6 := (X2.step T38).c6
            have x7 := (X2.step T38).c7
            go_wp2_with fail
            refine (zbytes_any v8 (ys ++ uvz (xs t).pr ++ uvz (Lib.zigzag (xs t).pn) ++ uvz (xs t).vr ++ uvz (Lib.zigzag (xs t).vn) ++ enc? (xs t).hv (xs t).vb) w8 T38.own (by simp; omega) (xs t).hl (xs t).lo (xs t).lc (xs t).lb (by omega) (M7.step T38 p8) (p8.step T38 M7)).mono ?_
            rintro e w9 ⟨v9, rfl, T9⟩
            have T39 := T38.trans T9
            clear T38 T9 x6 x7
            have G9 := T39.keepsNil G2a
            have B9 : Below w.heap.size w w9 := B2a.trans (T39.belowNil B2a.size)
            have W9 : Has w9 v9 (ys ++ (bal (xs t).pr (xs t).pn ++ (bal (xs t).vr (xs t).vn ++ (enc? (xs t).hv (xs t).vb ++ enc? (xs t).hl (xs t).lb)))) := by
              have := T39.own
              simpa [bal] using this
            go_wp2_with fail
            refine (equal_same v2 v9 _ w9 G9 W9).mono ?_
            rintro e w' ⟨rfl, hw⟩
            replace hw := hw.symm
            subst hw
            go_wp2
            go_ret
            exact ⟨rfl, B9⟩

end Go.Proofs.Ybulkrmk
