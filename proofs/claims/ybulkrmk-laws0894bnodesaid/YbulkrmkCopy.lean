/-
  CONTRACTS over the dump ybulkrmk: zzs0894bcopy, AppendState of an acceptor and of a learner.
-/
import Derived.Test.YbulkrmkParts
namespace Go.Proofs.Ybulkrmk
open Go.RowKit

/-- WHAT A COPIED VALUE IS: nil where there is none, else a slice of the call's own, never nil, that holds the bytes. -/
def Copied (w : World) (v : Value) (has : Bool) (bs : List Int) : Prop :=
  (has = false ∧ v = .slice none 0 0) ∨ (has = true ∧ ∃ g c, v = .slice (some ⟨g, 0, none⟩) bs.length c ∧ Lies w (some ⟨g, 0, none⟩) bs)

/-- Its encoding. -/
def enc? (has : Bool) (bs : List Int) : List Int := if has then fld (some bs) else fld none

/-- onto a slice that is not nil: the result is not nil. -/
theorem run_append_some (w : World) (v : Value) (l news : List Int) (hown : Has w v l) (hsome : v.ownBlock ≠ none) (ao : Option Addr) (c : Nat) (ty : TypeId)
    (hnews : Lies w ao news) (hlim : l.length + news.length ≤ 1000000) :
    ∃ v' w', (Builtin.append_ #[23, 23] ty #[v, .slice ao news.length c]).run Yba.prog w = .ok v' w' ∧ Step w v w' v' (l ++ news) ∧ v'.ownBlock ≠ none := by
  obtain ⟨v', w', hr, hst⟩ := run_append_step w v l news hown ao c ty hnews hlim
  refine ⟨v', w', hr, hst, ?_⟩
  rcases Nat.eq_zero_or_pos news.length with h0 | hpos
  · obtain rfl : news = [] := List.eq_nil_of_length_eq_zero h0
    obtain ⟨i0, hi, hz0, hz1, hz2⟩ := info_parts Yba.info5
    have hs : Src Yba.prog i0.size 23 (.slice ao ([] : List Int).length c) 0 [] w := by
      cases ao with
      | none => exact Src.ofNil w Yba.underlying23 c
      | some ad => exact Src.ofSlice w Yba.underlying23 ad 0 c [] (by simp) (fun j u h => by simp at h) (fun u h => by cases h)
    obtain ⟨ab, cb, rfl, hle, _⟩ := hown.shape
    have e := hr.symm.trans (run_append_nothing w 23 23 ty 5 i0 Yba.underlying23 hi ab l.length cb hle _ hs)
    simp only [Result.ok.injEq] at e
    rw [e.1]
    exact hsome
  · obtain ⟨_, _, _, _, hc⟩ := hst.own.shape
    obtain ⟨g, _, hb, _⟩ := hc 0 (by simp; omega)
    rw [hb]
    simp

theorem wpList_append_some {ops : Array Oper} {rest : List Oper} {o : Oper} {a : Act} {w : World} {Q : Exit → Act → World → Prop} (hgd : o.guard = none) (s x : Operand)
    (ho : o.op = .call { callee := .builtin .append, args := #[s, x], argTypes := #[23, 23] })
    (v : Value) (l : List Int) (hs : a.eval s = v) (hown : Has w v l) (hsome : v.ownBlock ≠ none) (ao : Option Addr) (m c : Nat) (news : List Int) (hx : a.eval x = .slice ao m c) (hm : news.length = m)
    (hnews : Lies w ao news) (hlim : l.length + news.length ≤ 1000000)
    (h : ∀ v' w', Step w v w' v' (l ++ news) → v'.ownBlock ≠ none → wpList Yba.prog ops Q rest (a.put o.dst v') w') : wpList Yba.prog ops Q (o :: rest) a w := by
  subst hm
  refine wpList_plain hgd fun K hK => ?_
  obtain ⟨v', w', hr, h2, h3⟩ := run_append_some w v l news hown hsome ao c o.type hnews hlim
  unfold Oper.wp execOp
  simp only [ho, resolve, invoke, builtin, Sem.run_bind, Sem.run_pure, Result.andThen_ok, List.map_toArray, List.map_cons, List.map_nil, hs, hx, hr]
  exact hK _ _ (h v' w' h2 h3)

/-- The empty slice that '[]byte{}' lays. -/
theorem has_empty (w : World) : Has (w.alloc (.cells #[] 5)) (.slice (some ⟨w.heap.size, 0, none⟩) 0 0) [] :=
  World.ownsRow_made w #[] 0 (Nat.zero_le _) (Nat.zero_le _) rfl

set_option maxHeartbeats 800000 in
/-- zzs0894bcopy: nothing that was there turns. -/
theorem copy_any (ao : Option Addr) (c : Nat) (bs : List Int) (has : Bool) (w : World) (hlies : Lies w ao bs) (hl : bs.length ≤ 2000) :
    Calls Yba.prog 5 #[.slice ao bs.length c, .bool has] w fun e w' => ∃ v, e = .returned v ∧ Copied w' v has bs ∧ Below w.heap.size w w' ∧ (∀ g n c', v = .slice (some ⟨g, 0, none⟩) n c' → w.heap.size ≤ g ∧ g < w'.heap.size) := by
  cases has
  · go_enter Yba.func5, Yba.ntmps5
    go_wp2
    go_ret
    exact ⟨_, rfl, .inl ⟨rfl, rfl⟩, Below.refl _ _, fun g n c' h => by simp at h⟩
  · go_enter Yba.func5, Yba.ntmps5
    go_wp2_with (at_builtin; refine wpList_append_some rfl _ _ rfl (.slice (some ⟨w.heap.size, 0, none⟩) 0 0) [] rfl (has_empty w) (by simp [Value.ownBlock]) ao bs.length c bs rfl rfl ?g1 ?g2 ?_)
    case g1 => exact hlies.alloc _
    case g2 => simp; omega
    intro v' w' hst hs
    have hown : Has w' v' bs := hst.own
    have hblk := hst.block
    have hbel : Below w.heap.size w w' := (hst.ofAlloc).below (Nat.le_refl _) (fun k hk => by simp [Value.ownBlock] at hk; omega)
    clear hst
    go_wp2
    go_ret
    obtain ⟨ab, cb, rfl, _, hc⟩ := hown.shape
    cases ab with
    | none => simp [Value.ownBlock] at hs
    | some a =>
      have hform : ∃ g, a = ⟨g, 0, none⟩ := by
        rcases hown.2 with ⟨he, _⟩ | ⟨g, cap, cur, he, _⟩
        · cases he
        · simp at he; exact ⟨g, he.1⟩
      obtain ⟨g, rfl⟩ := hform
      refine ⟨_, rfl, .inr ⟨rfl, g, cb, rfl, fun j hj => ⟨_, rfl, ?_⟩⟩, hbel, fun g' n' c' he => ?_⟩
      · obtain ⟨g', he, _, hcell⟩ := hc j hj
        cases he
        rw [Addr.add_lit, Nat.zero_add]
        exact hcell
      · simp at he
        obtain ⟨rfl, _, _⟩ := he
        refine ⟨?_, hown.lt rfl⟩
        rcases hblk with hb | hb
        · simp [Value.ownBlock] at hb; omega
        · have := hb g rfl; simp at this; omega

end Go.Proofs.Ybulkrmk
