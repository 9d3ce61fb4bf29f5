/-
  THE PROOF OF 'Rows.LawS0894BNodeSaid': the walk lies in YbulkrmkNodeLaw.lean; here the arguments are opened and the row is built.
-/
import Derived.Test.YbulkrmkRows
import Derived.Test.YbulkrmkNodeLaw
import Derived.WalkKit
import Derived.ProofKit
import Derived.OpenShut
import Derived.ShutString
import Derived.ChangeOld
import Derived.Below
import Derived.Deep.Slices
namespace Go.Proofs.Ybulkrmk.lawS0894BNode
open Go.ChangeShapes Go.WideShapes Go.ChangeAt Go.RowKit Go.Deep
set_option linter.unusedVariables false

theorem own : ownKnob Yba.prog.godebug = none := by kernel_rfl
theorem laidOut : laidOutB Yba.prog = true := by kernel_rfl
theorem cells26 : Yba.prog.cellsOf 26 = 8 := by kernel_rfl
theorem cells24 : Yba.prog.cellsOf 24 = 1 := by kernel_rfl
theorem cells3 : Yba.prog.cellsOf 3 = 1 := by kernel_rfl
theorem cells23 : Yba.prog.cellsOf 23 = 1 := by kernel_rfl
theorem cells4 : Yba.prog.cellsOf 4 = 1 := by kernel_rfl

section
variable {H : Type} {enc : TypeId × Value → H} {W : World} {base : Nat} {held : Bool}

/-- A slice of bytes, opened from one cell. -/
theorem bytes_of {fuel : Nat} {v : Value} {x : DataW H × List MemPlace} (h : DataW.trod enc Yba.prog W base (fun _ => true) held fuel 23 [v] = some x) : ∃ ao bs c, v = .slice ao bs.length c ∧ Lies W ao bs := by
  rcases open_ints Yba.underlying23 Yba.underlying5 (by kernel_rfl) h with ⟨hcs, _⟩ | ⟨a, len, cap, zs, hcs, _, hl, _, hz, _, hcell, _⟩
  · simp at hcs
    exact ⟨none, [], 0, by rw [hcs]; rfl, fun j hj => by simp at hj⟩
  · simp at hcs hz
    have hlen : (zs.take len).length = len := by rw [List.length_take]; omega
    refine ⟨some a, zs.take len, cap, by rw [hlen]; exact hcs, fun j hj => ⟨a, rfl, ?_⟩⟩
    rw [hcell j (by omega)]
    have hj' : j < len := by omega
    simp [List.getD, hj']

theorem u64_of {r : Int} (h : (Lit.int .u64 r).wf = true) : ∃ k : Nat, r = (k : Int) ∧ k < 18446744073709551616 := by
  simp [Lit.wf, IntKind.min, IntKind.max, IntKind.signed, IntKind.bits] at h
  exact ⟨r.toNat, by omega, by omega⟩

theorem i64_of {r : Int} (h : (Lit.int .i64 r).wf = true) : -9223372036854775808 ≤ r ∧ r ≤ 9223372036854775807 := by
  simp [Lit.wf, IntKind.min, IntKind.max, IntKind.signed, IntKind.bits] at h
  omega

/-- One element of accs, opened. -/
theorem acc_of {fuel b o : Nat} {cs : List Value} {x : DataW H × List MemPlace} (h : DataW.trod enc Yba.prog W base (fun _ => true) held fuel 26 cs = some x) (hlen : cs.length = 8) (hcell : ∀ j, j < 8 → W.cell? ⟨b, o + j, none⟩ = cs[j]?) : ∃ a : Acc, a.At W b o := by
  match cs, hlen with
  | [v0, v1, v2, v3, v4, v5, v6, v7], _ =>
  obtain ⟨ys, n, _, _, _, hyl, hf⟩ := DataW.trod_struct Yba.underlying26 h
  have get : ∀ i, i < 8 → ∃ y, ys[i]? = some y := fun i hi => ⟨ys[i]'(by rw [hyl]; exact hi), by simp⟩
  obtain ⟨y0, g0⟩ := get 0 (by omega)
  obtain ⟨y1, g1⟩ := get 1 (by omega)
  obtain ⟨y2, g2⟩ := get 2 (by omega)
  obtain ⟨y3, g3⟩ := get 3 (by omega)
  obtain ⟨y4, g4⟩ := get 4 (by omega)
  obtain ⟨y5, g5⟩ := get 5 (by omega)
  obtain ⟨y6, g6⟩ := get 6 (by omega)
  obtain ⟨y7, g7⟩ := get 7 (by omega)
  have t0 := (hf 0 _ rfl).trans g0
  have t1 := (hf 1 _ rfl).trans g1
  have t2 := (hf 2 _ rfl).trans g2
  have t3 := (hf 3 _ rfl).trans g3
  have t4 := (hf 4 _ rfl).trans g4
  have t5 := (hf 5 _ rfl).trans g5
  have t6 := (hf 6 _ rfl).trans g6
  have t7 := (hf 7 _ rfl).trans g7
  simp [cells24, cells3, cells23, cells4] at t0 t1 t2 t3 t4 t5 t6 t7
  obtain ⟨r0, e0, _, f0⟩ := DataW.trod_int Yba.underlying24 t0
  obtain ⟨r1, e1, _, f1⟩ := DataW.trod_int Yba.underlying3 t1
  obtain ⟨r2, e2, _, f2⟩ := DataW.trod_int Yba.underlying24 t2
  obtain ⟨r3, e3, _, f3⟩ := DataW.trod_int Yba.underlying3 t3
  obtain ⟨ao, bs, c, e4, l4⟩ := bytes_of t4
  obtain ⟨b5, e5, _⟩ := DataW.trod_bool Yba.underlying4 t5
  obtain ⟨ao', bs', c', e6, l6⟩ := bytes_of t6
  obtain ⟨b7, e7, _⟩ := DataW.trod_bool Yba.underlying4 t7
  obtain ⟨k0, rfl, p0⟩ := u64_of f0
  obtain ⟨k2, rfl, p2⟩ := u64_of f2
  obtain ⟨p1, q1⟩ := i64_of f1
  obtain ⟨p3, q3⟩ := i64_of f3
  simp at e0 e1 e2 e3 e5 e7
  subst e0 e1 e2 e3 e4 e5 e6 e7
  exact ⟨⟨k0, r1, k2, r3, ao, c, bs, b5, ao', c', bs', b7⟩, by simpa using hcell 0 (by omega), by simpa using hcell 1 (by omega), by simpa using hcell 2 (by omega), by simpa using hcell 3 (by omega), by simpa using hcell 4 (by omega), by simpa using hcell 5 (by omega), by simpa using hcell 6 (by omega), by simpa using hcell 7 (by omega), l4, l6, p0, p2, p1, q1, p3, q3⟩

end

/-- What the walk is told of accs: it is empty, or each of its elements lies there. -/
def IsAccs (w : World) (a : Option Addr) (len : Nat) : Prop := len = 0 ∨ ∃ b off, a = some ⟨b, off, none⟩ ∧ ∃ xs : Nat → Acc, ∀ j, j < len → (xs j).At w b (off + j * 8)

set_option maxRecDepth 100000 in
set_option maxHeartbeats 800000 in
theorem walk_many (a0 : Option Addr) (len0 cap0 : Nat) (a1 : Int) (a2 : Option Addr) (len2 cap2 : Nat) (w : World) (h : len0 = 0 ∨ 1024 < len0 ∨ 1024 < len2) :
    Calls Yba.prog 3 #[.slice a0 len0 cap0, .int .u8 a1, .slice a2 len2 cap2] w fun e w' => e = .returned (.bool true) ∧ Below w.heap.size w w' := by
  by_cases h0 : len0 = 0
  · subst h0
    go_enter Yba.func3, Yba.ntmps3
    go_wp2
    go_ret
    exact ⟨rfl, Below.refl _ _⟩
  · have e0 : ((len0 : Int) == 0) = false := by simp; omega
    by_cases h1 : 1024 < len0
    · have e1 : (1024 : Int) < (len0 : Int) := by omega
      clear h h0
      go_enter Yba.func3, Yba.ntmps3
      go_wp2
      go_ret
      exact ⟨rfl, Below.refl _ _⟩
    · have e1 : ¬ (1024 : Int) < (len0 : Int) := by omega
      have e2 : (1024 : Int) < (len2 : Int) := by omega
      clear h h0
      go_enter Yba.func3, Yba.ntmps3
      go_wp2
      go_ret
      exact ⟨rfl, Below.refl _ _⟩

/-- THE WALK: the Go text returns true, AND WRITES NOTHING THAT WAS THERE. -/
theorem walk (a0 : Option Addr) (len0 cap0 : Nat) (a1 : Int) (a2 : Option Addr) (c2 : Nat) (ys : List Int) (w : World) (w0 : IsAccs w a0 len0) (w1 : (Lit.int .u8 a1).wf = true) (w2 : Lies w a2 ys) :
    Calls Yba.prog 3 #[.slice a0 len0 cap0, .int .u8 a1, .slice a2 ys.length c2] w fun e w' => e = .returned (.bool true) ∧ Below w.heap.size w w' := by
  by_cases h : len0 = 0 ∨ 1024 < len0 ∨ 1024 < ys.length
  · exact walk_many a0 len0 cap0 a1 a2 ys.length c2 w h
  · simp [Lit.wf, IntKind.min, IntKind.max, IntKind.signed, IntKind.bits] at w1
    rcases w0 with hl | ⟨b, off, rfl, xs, hx⟩
    · omega
    · exact node_walk b off len0 cap0 xs a1 a2 ys.length c2 ys w (by omega) (by omega) hx (by omega) (by omega) (by omega) rfl w2

set_option maxRecDepth 100000 in
theorem lifted (os : Os) (started : os.Started) (H : Type) (enc : TypeId × Value → H) :
    ReturnsInHanded {} Yba.checked os 3 .any (Rows.lawS0894BNodeSpec.pre6 enc Yba.prog Yba.f3 Rows.lawS0894BNodeRow.domain false) (Rows.lawS0894BNodeSpec.post enc Yba.prog Yba.f3 false true false false) := by
  refine returnsInHanded_of_change (C := Yba.checked) own started (by kernel_rfl) Yba.func3
    (ChangeSpec.witness6 (enc := enc) (C := Yba.checked) false ⟨#[], #[.slice none 0 0, .int .u8 0, .slice none 0 0], []⟩ 8 (by kernel_rfl) (by kernel_rfl) (by kernel_rfl) (by kernel_rfl)) ?_
  intro W base args ds gs before hval0 hW hcnd _
  have hval : ∀ (j : Nat) t v, Yba.f3.params[j]? = some t → args[j]? = some v → Value.okWide Yba.prog W .any base t v := hval0
  have hW' := hW
  obtain ⟨p, q, hA0, hV, rfl, hfz, hnd⟩ := hW
  have hA : DataW.TrodAll enc Yba.prog W 0 (fun _ => true) true Yba.f3.params.toList args.toList ds p := hA0
  rw [Yba.params3] at hA hval
  obtain ⟨v0, vs0, d0, ds0, p0, q0, hargs, rfl, rfl, h0, r0⟩ := trodAll_cons hA
  obtain ⟨v1, vs1, d1, ds1, p1, q1, rfl, rfl, rfl, h1, r1⟩ := trodAll_cons r0
  obtain ⟨v2, vs2, d2, ds2, p2, q2, rfl, rfl, rfl, h2, r2⟩ := trodAll_cons r1
  obtain ⟨rfl, rfl, rfl⟩ := trodAll_nil r2
  obtain rfl : args = #[v0, v1, v2] := by cases args; simp_all
  obtain ⟨rfl, rfl⟩ := trodVars_none hV
  obtain ⟨a0, len0, cap0, rfl⟩ := okWide_slice Yba.underlying22 (hval 0 22 v0 rfl rfl)
  have k0 := h0
  have lt0 : ∀ x ∈ p0, x.block < W.heap.size := by obtain ⟨m, hm⟩ := k0; exact DataW.trod_lt m _ _ _ hm
  have w0 : IsAccs W a0 len0 := by
    obtain ⟨fuel, hf⟩ := h0
    rcases open_slice Yba.underlying22 hf with ⟨hcs, _⟩ | ⟨a, len, cap, m, n, D, Pl, hcs, _, hl, _, hm, _, hel⟩
    · simp [Value.cells] at hcs
      exact .inl hcs.2.1
    · simp [Value.cells] at hcs
      obtain ⟨rfl, rfl, rfl⟩ := hcs
      simp at hm
      rcases Nat.eq_zero_or_pos len0 with hz | hpos
      · exact .inl hz
      · refine .inr ?_
        rw [cells26] at hel
        obtain ⟨b, off, spot⟩ := a
        have hspot : spot = none := by
          obtain ⟨cs', hc, _⟩ := hel 0 (by omega)
          obtain ⟨_, hlen, hcell⟩ := World.cells?_some hc
          have h0 := hcell 0 (by omega)
          have hne : ∃ u, cs'[0]? = some u := ⟨cs'[0]'(by omega), by simp⟩
          obtain ⟨u, hu⟩ := hne
          rw [hu] at h0
          simpa [Addr.add] using World.cell?_spot h0
        subst hspot
        have hex : ∀ j, j < len0 → ∃ x : Acc, x.At W b (off + j * 8) := fun j hj => by
          obtain ⟨cs', hc, ht⟩ := hel j (by omega)
          obtain ⟨_, hlen, hcell⟩ := World.cells?_some hc
          exact acc_of (b := b) (o := off + j * 8) ht hlen (fun i hi => by
            have := hcell i hi
            rw [Addr.add_lit, Addr.add_lit] at this
            exact this)
        obtain ⟨xs, hxs⟩ := @choose_lt Acc ⟨⟨0, 0, 0, 0, .none, 0, [], false, .none, 0, [], false⟩⟩ len0 (fun j x => x.At W b (off + j * 8)) hex
        exact ⟨b, off, rfl, xs, hxs⟩
  obtain ⟨a1, rfl, rfl, rfl, w1⟩ := open_int Yba.underlying5 (hval 1 5 v1 rfl rfl) h1
  obtain ⟨a2, len2, cap2, rfl⟩ := okWide_slice Yba.underlying23 (hval 2 23 v2 rfl rfl)
  have k2 := h2
  have lt2 : ∀ x ∈ p2, x.block < W.heap.size := by obtain ⟨m, hm⟩ := k2; exact DataW.trod_lt m _ _ _ hm
  obtain ⟨ys, hys, w2⟩ : ∃ ys : List Int, ys.length = len2 ∧ Lies W a2 ys := by
    obtain ⟨fuel, hf⟩ := h2
    obtain ⟨ao, bs, c, he, hl⟩ := bytes_of hf
    simp at he
    obtain ⟨rfl, rfl, rfl⟩ := he
    exact ⟨bs, rfl, hl⟩
  subst hys
  clear hA0 hval0
  refine (walk a0 len0 cap0 a1 a2 cap2 ys W w0 w1 w2).mono fun e W' ⟨he, bel⟩ => ?_
  subst he
  exact ⟨_, rfl, _, _, _, [], _, [], hW', trodAll_mk1 (shut_bool Yba.underlying4 _), (trodAll_cons_mk (Below.trod laidOut (by kernel_rfl) (of_decide_eq_true (by kernel_rfl)) k0 bel lt0) (trodAll_cons_mk (shut_int Yba.underlying5 w1) (trodAll_cons_mk (Below.trod laidOut (by kernel_rfl) (of_decide_eq_true (by kernel_rfl)) k2 bel lt2) trodAll_mk0))), rfl, bel.frame _, fun h => by cases h⟩

theorem over : Rows.lawS0894BNodeRow.holds Yba.pinned (OpenSpec.ofChange Rows.lawS0894BNodeSpec) :=
  OpenClaim.holds_of_wide 3 Yba.f3 rfl rfl rfl rfl rfl rfl rfl ⟨rfl, rfl, rfl, rfl, rfl⟩ rfl rfl rfl rfl rfl (by kernel_rfl) Yba.func3 (by kernel_rfl)
    (of_decide_eq_true (by kernel_rfl)) (by unfold Func.isWrapper; first | (rw [if_pos (by decide +kernel)]; kernel_rfl) | (rw [if_neg (by decide +kernel)]; exact ⟨rfl, rfl⟩))
    (fun os started H enc _ => lifted os started H enc)

theorem proved : Rows.LawS0894BNodeSaid := over
end Go.Proofs.Ybulkrmk.lawS0894BNode

namespace Go.Proofs.Ybulkrmk
theorem lawS0894BNode_proved : Rows.LawS0894BNodeSaid := lawS0894BNode.proved
end Go.Proofs.Ybulkrmk
