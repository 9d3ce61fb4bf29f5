/-
  A SLICE OF BYTES OF THE CALL's OWN, APPENDED TO: what it holds ('Has'), and one step or many of appending, with the exact frame ('Step'): of what was there nothing turns but the slice's own block. The law of the built-in append in these words.
-/
import Derived.Test.YbulkrmkRows
import Derived.WalkKit
import Derived.Deep.Upon
namespace Go.Proofs.Ybulkrmk
open Go.RowKit

theorem Yba.info5 : (Yba.prog.info? 5).map (fun i => (i.zero, i.size, i.bytes)) = some (some (.int .u8 0), 1, 1) := by kernel_rfl

/-- Bytes as cells. -/
def cells (l : List Int) : List Value := l.map (Value.int .u8)

theorem cells_length (l : List Int) : (cells l).length = l.length := by simp [cells]
theorem cells_append (l m : List Int) : cells (l ++ m) = cells l ++ cells m := by simp [cells]
theorem cells_get (l : List Int) (j : Nat) (u : Value) (h : (cells l)[j]? = some u) : j < l.length ∧ u = .int .u8 (l.getD j 0) := by
  simp only [cells, List.getElem?_map, Option.map_eq_some_iff] at h
  obtain ⟨a, ha, rfl⟩ := h
  obtain ⟨hj, he⟩ := List.getElem?_eq_some_iff.1 ha
  exact ⟨hj, by simp [List.getD, ha]⟩

/-- The slice v is nil and l is empty, or v owns a row whose elements are the bytes l. -/
def Has (w : World) (v : Value) (l : List Int) : Prop := w.ownsRow 0 5 1 v l.length (cells l)

theorem Has.nil (w : World) : Has w (.slice none 0 0) [] := World.ownsRow_nil w 0 5 1
theorem Has.alloc {w : World} {v : Value} {l : List Int} (h : Has w v l) (o : Obj) : Has (w.alloc o) v l := World.ownsRow.alloc h o
theorem Has.lt {w : World} {v : Value} {l : List Int} (h : Has w v l) {k : Nat} (hk : v.ownBlock = some k) : k < w.heap.size := (World.ownsRow.lt h k hk).2
theorem Has.kept {w w' : World} {v : Value} {l : List Int} {row : Option Nat} (h : Has w v l) (hg : w.grownBy w' row) (hne : v.ownBlock = none ∨ v.ownBlock ≠ row) : Has w' v l := World.ownsRow.kept h hg hne

/-- What such a slice is as a value. -/
theorem Has.shape {w : World} {v : Value} {l : List Int} (h : Has w v l) : ∃ ao c, v = .slice ao l.length c ∧ l.length ≤ c ∧ (∀ j, j < l.length → ∃ g, ao = some ⟨g, 0, none⟩ ∧ v.ownBlock = some g ∧ w.cell? ⟨g, j, none⟩ = some (.int .u8 (l.getD j 0))) := by
  have h0 := h
  rcases h.2 with ⟨rfl, hn⟩ | ⟨g, cap, cur, rfl, _, _, hnc, _⟩
  · exact ⟨none, 0, by rw [hn], by omega, fun j hj => by omega⟩
  · refine ⟨some ⟨g, 0, none⟩, cap, rfl, hnc, fun j hj => ⟨g, rfl, rfl, ?_⟩⟩
    have := World.ownsRow.cells h0 (g := g) rfl j (.int .u8 (l.getD j 0)) (by simp [cells, List.getD, hj])
    rw [Addr.add_lit, Nat.zero_add] at this
    exact this

/-- FROM v IN w TO v' IN w', which holds l': the slice's own block alone may have turned; v' lies in it still, or in a new one. -/
structure Step (w : World) (v : Value) (w' : World) (v' : Value) (l' : List Int) : Prop where
  own : Has w' v' l'
  grown : w.grownBy w' v.ownBlock
  block : v'.ownBlock = v.ownBlock ∨ ∀ k, v'.ownBlock = some k → w.heap.size ≤ k

theorem Step.refl {w : World} {v : Value} {l : List Int} (h : Has w v l) : Step w v w v l := ⟨h, ⟨rfl, rfl, rfl, Nat.le_refl _, fun _ _ _ => rfl⟩, .inl rfl⟩

/-- A block that is not the slice's is none of the later slice's either. -/
theorem Step.away {w w' : World} {v v' : Value} {l' : List Int} (h : Step w v w' v' l') {k : Nat} (hk : k < w.heap.size) (hne : v.ownBlock ≠ some k) : v'.ownBlock ≠ some k := by
  rcases h.block with e | e
  · rw [e]; exact hne
  · intro hk'
    have := e k hk'
    omega

theorem Step.cell {w w' : World} {v v' : Value} {l' : List Int} (h : Step w v w' v' l') {a : Addr} {u : Value} (hc : w.cell? a = some u) (hne : v.ownBlock ≠ some a.block) : w'.cell? a = some u :=
  h.grown.cell hc (fun e => hne e.symm)

theorem Step.size {w w' : World} {v v' : Value} {l' : List Int} (h : Step w v w' v' l') : w.heap.size ≤ w'.heap.size := h.grown.size

theorem Step.trans {w w1 w2 : World} {v v1 v2 : Value} {l1 l2 : List Int} (h : Step w v w1 v1 l1) (k : Step w1 v1 w2 v2 l2) : Step w v w2 v2 l2 := by
  refine ⟨k.own, ⟨k.grown.os.trans h.grown.os, k.grown.tape.trans h.grown.tape, k.grown.output.trans h.grown.output, Nat.le_trans h.size k.size, fun i hi hne => ?_⟩, ?_⟩
  · rw [k.grown.block i (Nat.lt_of_lt_of_le hi h.size) (fun e => h.away hi (fun e' => hne e'.symm) e.symm), h.grown.block i hi hne]
  · rcases k.block with e | e
    · rw [e]; exact h.block
    · exact .inr fun i hi => Nat.le_trans h.size (e i hi)

/-- A block laid ahead of the step. -/
theorem Step.ofAlloc {w w' : World} {v v' : Value} {l' : List Int} {o : Obj} (h : Step (w.alloc o) v w' v' l') : Step w v w' v' l' := by
  refine ⟨h.own, ⟨h.grown.os, h.grown.tape, h.grown.output, Nat.le_trans (by simp) h.size, fun i hi hne => ?_⟩, ?_⟩
  · rw [h.grown.block i (by simp; omega) hne]
    exact Below.heap_alloc w o i hi
  · rcases h.block with e | e
    · exact .inl e
    · exact .inr fun i hi => Nat.le_trans (by simp) (e i hi)

/-- A block laid behind it. -/
theorem Step.alloc {w w' : World} {v v' : Value} {l' : List Int} (h : Step w v w' v' l') (o : Obj) : Step w v (w'.alloc o) v' l' :=
  h.trans ⟨h.own.alloc o, ⟨rfl, rfl, rfl, by simp, fun i hi _ => Below.heap_alloc w' o i hi⟩, .inl rfl⟩

/-- A draw behind it. -/
theorem Step.drew {w w' : World} {v v' : Value} {l' : List Int} (h : Step w v w' v' l') : Step w v w'.drew v' l' := ⟨h.own, ⟨h.grown.os, h.grown.tape, h.grown.output, h.grown.size, h.grown.block⟩, h.block⟩

/-- Below the slice's own block nothing turns. -/
theorem Step.below {w w' : World} {v v' : Value} {l' : List Int} (h : Step w v w' v' l') {B : Nat} (hB : B ≤ w.heap.size) (hv : ∀ k, v.ownBlock = some k → B ≤ k) : Below B w w' :=
  ⟨h.grown.os, h.grown.tape, h.grown.output, h.size, fun k hk => h.grown.block k (by omega) (fun e => by have := hv k e.symm; omega)⟩

/-! ### the built-in append -/

theorem run_append_step (w : World) (v : Value) (l news : List Int) (hown : Has w v l) (ao : Option Addr) (c : Nat) (ty : TypeId)
    (hnews : ∀ j, j < news.length → ∃ ad, ao = some ad ∧ w.cell? (ad.add j) = some (.int .u8 (news.getD j 0))) (hlim : l.length + news.length ≤ 1000000) :
    ∃ v' w', (Builtin.append_ #[23, 23] ty #[v, .slice ao news.length c]).run Yba.prog w = .ok v' w' ∧ Step w v w' v' (l ++ news) := by
  obtain ⟨i0, hi, hz0, hz1, hz2⟩ := info_parts Yba.info5
  rcases Nat.eq_zero_or_pos news.length with h0 | hpos
  · -- nothing is appended
    obtain rfl : news = [] := List.eq_nil_of_length_eq_zero h0
    have hs : Src Yba.prog i0.size 23 (.slice ao ([] : List Int).length c) 0 [] w := by
      cases ao with
      | none => exact Src.ofNil w Yba.underlying23 c
      | some ad => exact Src.ofSlice w Yba.underlying23 ad 0 c [] (by simp) (fun j u h => by simp at h) (fun u h => by cases h)
    obtain ⟨ab, cb, rfl, hle, _⟩ := hown.shape
    exact ⟨_, w, run_append_nothing w 23 23 ty 5 i0 Yba.underlying23 hi ab l.length cb hle _ hs, by rw [List.append_nil]; exact Step.refl hown⟩
  · obtain ⟨ad, rfl, _⟩ := hnews 0 hpos
    have hn : ∀ j u, (cells news)[j]? = some u → w.cell? (ad.add j) = some u := fun j u hj => by
      obtain ⟨hlt, rfl⟩ := cells_get news j u hj
      obtain ⟨ad', he, hc⟩ := hnews j hlt
      cases he
      exact hc
    have h1 : ∀ u ∈ cells news, u.oneCell' = true := fun u hu => by
      simp only [cells, List.mem_map] at hu
      obtain ⟨z, _, rfl⟩ := hu
      rfl
    have hml : l.length + news.length ≤ maxLen := by unfold maxLen; omega
    obtain ⟨v', w', hr, h2, h3, _⟩ := run_append_own (P := Yba.prog) w 0 23 ty 5 i0 (.int .u8 0) 1 1 Yba.underlying23 hi hz0 hz1 hz2 rfl (by decide) v l.length (cells l) hown ad news.length c (cells news) (by simp [cells]) hn h1 hml (by omega) (Nat.zero_le _)
    refine ⟨v', w', hr, ⟨by unfold Has; rw [List.length_append, cells_append]; exact h2, h3, ?_⟩⟩
    have hown0 := hown
    rcases hown.2 with ⟨rfl, hl0⟩ | ⟨g, cap, cur, rfl, _, hg, hnc, hcm, hcs, htake⟩
    · -- nil: a new block
      obtain rfl : l = [] := List.eq_nil_of_length_eq_zero hl0
      obtain ⟨v2, w2, hr2, h22, _, _⟩ := run_append_own (P := Yba.prog) w w.heap.size 23 ty 5 i0 (.int .u8 0) 1 1 Yba.underlying23 hi hz0 hz1 hz2 rfl (by decide) (.slice none 0 0) 0 [] (World.ownsRow_nil w _ 5 1) ad news.length c (cells news) (by simp [cells]) hn h1 (by simpa using hml) (by simp at hlim; omega) (Nat.le_refl _)
      have e := hr.symm.trans hr2
      simp only [Result.ok.injEq] at e
      obtain ⟨rfl, rfl⟩ := e
      exact .inr fun k hk => (World.ownsRow.lt h22 k hk).1
    · by_cases hroom : l.length + news.length ≤ cap
      · have hfit : l.length * i0.size + (cells news).length ≤ cur.size := by rw [cells_length, hcs, hz1]; omega
        have hr2 := run_append_room (P := Yba.prog) w 23 ty 5 i0 Yba.underlying23 hi g l.length cap cur hg ad news.length c (cells news) (by rw [cells_length, hz1]; omega) hn h1 hroom hfit
        have e := hr.symm.trans hr2
        simp only [Result.ok.injEq] at e
        obtain ⟨rfl, _⟩ := e
        exact .inl rfl
      · have holds : ∀ j u, (cells l)[j]? = some u → w.cell? ((⟨g, 0, none⟩ : Addr).add j) = some u := World.ownsRow.cells hown0 (g := g) rfl
        have hr2 := run_append_grow (P := Yba.prog) w 23 ty 5 i0 (.int .u8 0) Yba.underlying23 hi hz0 ⟨g, 0, none⟩ l.length cap (cells l) (by rw [cells_length, hz1]; omega) holds ad news.length c (cells news) (by rw [cells_length, hz1]; omega) hn (by omega) (by omega) (growslice_fits (by omega) (by rw [hz2]; omega))
        have e := hr.symm.trans hr2
        simp only [Result.ok.injEq] at e
        obtain ⟨rfl, _⟩ := e
        exact .inr fun k hk => by simp [Value.ownBlock] at hk; omega

theorem wpList_append_step {ops : Array Oper} {rest : List Oper} {o : Oper} {a : Act} {w : World} {Q : Exit → Act → World → Prop} (hgd : o.guard = none) (s x : Operand)
    (ho : o.op = .call { callee := .builtin .append, args := #[s, x], argTypes := #[23, 23] })
    (v : Value) (l : List Int) (hs : a.eval s = v) (hown : Has w v l) (ao : Option Addr) (m c : Nat) (news : List Int) (hx : a.eval x = .slice ao m c) (hm : news.length = m)
    (hnews : ∀ j, j < news.length → ∃ ad, ao = some ad ∧ w.cell? (ad.add j) = some (.int .u8 (news.getD j 0))) (hlim : l.length + news.length ≤ 1000000)
    (h : ∀ v' w', Step w v w' v' (l ++ news) → wpList Yba.prog ops Q rest (a.put o.dst v') w') : wpList Yba.prog ops Q (o :: rest) a w := by
  subst hm
  refine wpList_plain hgd fun K hK => ?_
  obtain ⟨v', w', hr, h2⟩ := run_append_step w v l news hown ao c o.type hnews hlim
  unfold Oper.wp execOp
  simp only [ho, resolve, invoke, builtin, Sem.run_bind, Sem.run_pure, Result.andThen_ok, List.map_toArray, List.map_cons, List.map_nil, hs, hx, hr]
  exact hK _ _ (h v' w' h2)

end Go.Proofs.Ybulkrmk
