/-
  THE LAW's STATE WHILE IT IS BUILT (LawS0894BNode): what the node's acceptor and learner hold, kept over what the building does.
-/
import Derived.Test.YbulkrmkNode2
namespace Go.Proofs.Ybulkrmk
open Go.RowKit

/-- One element of accs, as plain data, with where its two slices lie. -/
structure Acc where
  pr : Nat
  pn : Int
  vr : Nat
  vn : Int
  vo : Option Addr
  vc : Nat
  vb : List Int
  hv : Bool
  lo : Option Addr
  lc : Nat
  lb : List Int
  hl : Bool

/-- It lies there. -/
structure Acc.At (a : Acc) (w : World) (b o : Nat) : Prop where
  c0 : w.cell? ⟨b, o, none⟩ = some (.int .u64 a.pr)
  c1 : w.cell? ⟨b, o + 1, none⟩ = some (.int .i64 a.pn)
  c2 : w.cell? ⟨b, o + 2, none⟩ = some (.int .u64 a.vr)
  c3 : w.cell? ⟨b, o + 3, none⟩ = some (.int .i64 a.vn)
  c4 : w.cell? ⟨b, o + 4, none⟩ = some (.slice a.vo a.vb.length a.vc)
  c5 : w.cell? ⟨b, o + 5, none⟩ = some (.bool a.hv)
  c6 : w.cell? ⟨b, o + 6, none⟩ = some (.slice a.lo a.lb.length a.lc)
  c7 : w.cell? ⟨b, o + 7, none⟩ = some (.bool a.hl)
  liesV : Lies w a.vo a.vb
  liesL : Lies w a.lo a.lb
  pr1 : a.pr < 18446744073709551616
  vr1 : a.vr < 18446744073709551616
  pn0 : -9223372036854775808 ≤ a.pn
  pn1 : a.pn ≤ 9223372036854775807
  vn0 : -9223372036854775808 ≤ a.vn
  vn1 : a.vn ≤ 9223372036854775807

theorem Lies.kept {w w' : World} {ao : Option Addr} {news : List Int} (h : Lies w ao news) (hB : Below w.heap.size w w') : Lies w' ao news := fun j hj => by
  obtain ⟨ad, he, hc⟩ := h j hj
  exact ⟨ad, he, (hB.cell (World.block_lt_of_cell? _ _ hc)).trans hc⟩

theorem kept_cell {w w' : World} {a : Addr} {u : Value} (hB : Below w.heap.size w w') (hc : w.cell? a = some u) : w'.cell? a = some u := (hB.cell (World.block_lt_of_cell? _ _ hc)).trans hc

theorem Acc.At.kept {a : Acc} {w w' : World} {b o : Nat} (h : a.At w b o) (hB : Below w.heap.size w w') : a.At w' b o :=
  ⟨kept_cell hB h.c0, kept_cell hB h.c1, kept_cell hB h.c2, kept_cell hB h.c3, kept_cell hB h.c4, kept_cell hB h.c5, kept_cell hB h.c6, kept_cell hB h.c7, h.liesV.kept hB, h.liesL.kept hB, h.pr1, h.vr1, h.pn0, h.pn1, h.vn0, h.vn1⟩

theorem Copied.kept {w w' : World} {x : Value} {has : Bool} {bs : List Int} (h : Copied w x has bs) (hB : Below w.heap.size w w') : Copied w' x has bs := by
  rcases h with h | ⟨rfl, g, c, rfl, hl⟩
  · exact .inl h
  · exact .inr ⟨rfl, g, c, rfl, hl.kept hB⟩

/-- A copied value lies in none of the state's blocks. -/
def Aside (w wr : World) (sb ab lb : Nat) (x : Value) : Prop := ∀ g n c, x = .slice (some ⟨g, 0, none⟩) n c → g ≠ sb ∧ g ≠ ab ∧ g ≠ lb ∧ g < wr.heap.size ∧ w.heap.size ≤ g

/-- THE STATE: ka acceptors and kl learners are laid; what those of index t hold. -/
structure Inv (w wr : World) (n ka kl t : Nat) (a : Acc) (sb ab lb : Nat) : Prop where
  below : Below w.heap.size w wr
  nsb : w.heap.size ≤ sb
  nab : w.heap.size ≤ ab
  nlb : w.heap.size ≤ lb
  d1 : sb ≠ ab
  d2 : sb ≠ lb
  d3 : ab ≠ lb
  s0 : wr.cell? ⟨sb, 0, none⟩ = some (.slice (some ⟨ab, 0, none⟩) n n)
  s1 : wr.cell? ⟨sb, 1, none⟩ = some (.slice (some ⟨lb, 0, none⟩) n n)
  tha : ∀ q, q < n * 5 → ∃ u, wr.cell? ⟨ab, q, none⟩ = some u ∧ wr.frozen? ⟨ab, q, none⟩ = false
  thl : ∀ q, q < n → ∃ u, wr.cell? ⟨lb, q, none⟩ = some u ∧ wr.frozen? ⟨lb, q, none⟩ = false
  acc : t < ka → ∃ x, AccAt wr ab (t * 5) a.pr a.pn a.vr a.vn x ∧ Copied wr x a.hv a.vb ∧ Aside w wr sb ab lb x
  lrn : t < kl → ∃ y, wr.cell? ⟨lb, t, none⟩ = some y ∧ Copied wr y a.hl a.lb ∧ Aside w wr sb ab lb y

theorem Aside.mono {w wr wr' : World} {sb ab lb : Nat} {x : Value} (h : Aside w wr sb ab lb x) (hs : wr.heap.size ≤ wr'.heap.size) : Aside w wr' sb ab lb x := fun g n c he => by
  obtain ⟨h1, h2, h3, h4, h5⟩ := h g n c he
  exact ⟨h1, h2, h3, by omega, h5⟩

/-- Over what leaves all that is there as it is. -/
theorem Inv.kept {w wr wr' : World} {n ka kl t : Nat} {a : Acc} {sb ab lb : Nat} (h : Inv w wr n ka kl t a sb ab lb) (hB : Below wr.heap.size wr wr') : Inv w wr' n ka kl t a sb ab lb := by
  refine ⟨h.below.trans (hB.mono h.below.size), h.nsb, h.nab, h.nlb, h.d1, h.d2, h.d3, kept_cell hB h.s0, kept_cell hB h.s1, fun q hq => ?_, fun q hq => ?_, fun ht => ?_, fun ht => ?_⟩
  · obtain ⟨u, hu, hf⟩ := h.tha q hq
    exact ⟨u, kept_cell hB hu, (hB.frozen (World.block_lt_of_cell? _ _ hu)).trans hf⟩
  · obtain ⟨u, hu, hf⟩ := h.thl q hq
    exact ⟨u, kept_cell hB hu, (hB.frozen (World.block_lt_of_cell? _ _ hu)).trans hf⟩
  · obtain ⟨x, hA, hc, ha⟩ := h.acc ht
    exact ⟨x, ⟨kept_cell hB hA.c0, kept_cell hB hA.c1, kept_cell hB hA.c2, kept_cell hB hA.c3, kept_cell hB hA.c4⟩, hc.kept hB, ha.mono hB.size⟩
  · obtain ⟨y, hy, hc, ha⟩ := h.lrn ht
    exact ⟨y, kept_cell hB hy, hc.kept hB, ha.mono hB.size⟩

/-! ### stores -/

theorem set_other {w : World} {b q b' q' : Nat} {u v : Value} (hc : w.cell? ⟨b', q', none⟩ = some u) (hne : b' ≠ b ∨ q' ≠ q) : (w.setCell ⟨b, q, none⟩ v).cell? ⟨b', q', none⟩ = some u := by
  rw [World.cell?_setCell_other _ _ _ _ (fun e => by cases e; simp at hne)]
  exact hc

theorem Lies.set {w : World} {g : Nat} {bs : List Int} (h : Lies w (some ⟨g, 0, none⟩) bs) {b q : Nat} (hne : g ≠ b) (v : Value) : Lies (w.setCell ⟨b, q, none⟩ v) (some ⟨g, 0, none⟩) bs := fun j hj => by
  obtain ⟨ad, he, hc⟩ := h j hj
  cases he
  refine ⟨_, rfl, ?_⟩
  rw [Addr.add_lit] at hc ⊢
  exact set_other hc (.inl hne)

theorem Copied.set {w : World} {x : Value} {has : Bool} {bs : List Int} (h : Copied w x has bs) {b q : Nat} (hne : ∀ g n c, x = .slice (some ⟨g, 0, none⟩) n c → g ≠ b) (v : Value) : Copied (w.setCell ⟨b, q, none⟩ v) x has bs := by
  rcases h with h | ⟨rfl, g, c, rfl, hl⟩
  · exact .inl h
  · exact .inr ⟨rfl, g, c, rfl, hl.set (hne g _ _ rfl) v⟩

/-- A store into the acceptors' row, elsewhere than at index t (or ahead of it being laid). -/
theorem Inv.setA {w wr : World} {n ka kl t : Nat} {a : Acc} {sb ab lb : Nat} (h : Inv w wr n ka kl t a sb ab lb) (q : Nat) (v : Value) (hq : t < ka → q < t * 5 ∨ t * 5 + 5 ≤ q) : Inv w (wr.setCell ⟨ab, q, none⟩ v) n ka kl t a sb ab lb := by
  have hbz : (wr.setCell ⟨ab, q, none⟩ v).heap.size = wr.heap.size := by simp [World.setCell]
  refine ⟨h.below.setCell h.nab v, h.nsb, h.nab, h.nlb, h.d1, h.d2, h.d3, set_other h.s0 (.inl h.d1), set_other h.s1 (.inl h.d1), fun p hp => ?_, fun p hp => ?_, fun ht => ?_, fun ht => ?_⟩
  · obtain ⟨u, hu, hf⟩ := h.tha p hp
    by_cases e : p = q
    · subst e
      exact ⟨v, World.cell?_setCell_same _ _ _ hu, by rw [World.frozen?_setCell]; exact hf⟩
    · exact ⟨u, set_other hu (.inr e), by rw [World.frozen?_setCell]; exact hf⟩
  · obtain ⟨u, hu, hf⟩ := h.thl p hp
    exact ⟨u, set_other hu (.inl h.d3.symm), by rw [World.frozen?_setCell]; exact hf⟩
  · obtain ⟨x, hA, hc, ha⟩ := h.acc ht
    have := hq ht
    exact ⟨x, ⟨set_other hA.c0 (.inr (by omega)), set_other hA.c1 (.inr (by omega)), set_other hA.c2 (.inr (by omega)), set_other hA.c3 (.inr (by omega)), set_other hA.c4 (.inr (by omega))⟩, hc.set (fun g n c e => (ha g n c e).2.1) v, ha.mono (by omega)⟩
  · obtain ⟨y, hy, hc, ha⟩ := h.lrn ht
    exact ⟨y, set_other hy (.inl h.d3.symm), hc.set (fun g n c e => (ha g n c e).2.1) v, ha.mono (by omega)⟩

/-- A store into the learners' row, elsewhere than at index t (or ahead of it being laid). -/
theorem Inv.setL {w wr : World} {n ka kl t : Nat} {a : Acc} {sb ab lb : Nat} (h : Inv w wr n ka kl t a sb ab lb) (q : Nat) (v : Value) (hq : t < kl → q ≠ t) : Inv w (wr.setCell ⟨lb, q, none⟩ v) n ka kl t a sb ab lb := by
  have hbz : (wr.setCell ⟨lb, q, none⟩ v).heap.size = wr.heap.size := by simp [World.setCell]
  refine ⟨h.below.setCell h.nlb v, h.nsb, h.nab, h.nlb, h.d1, h.d2, h.d3, set_other h.s0 (.inl h.d2), set_other h.s1 (.inl h.d2), fun p hp => ?_, fun p hp => ?_, fun ht => ?_, fun ht => ?_⟩
  · obtain ⟨u, hu, hf⟩ := h.tha p hp
    exact ⟨u, set_other hu (.inl h.d3), by rw [World.frozen?_setCell]; exact hf⟩
  · obtain ⟨u, hu, hf⟩ := h.thl p hp
    by_cases e : p = q
    · subst e
      exact ⟨v, World.cell?_setCell_same _ _ _ hu, by rw [World.frozen?_setCell]; exact hf⟩
    · exact ⟨u, set_other hu (.inr e), by rw [World.frozen?_setCell]; exact hf⟩
  · obtain ⟨x, hA, hc, ha⟩ := h.acc ht
    exact ⟨x, ⟨set_other hA.c0 (.inl h.d3), set_other hA.c1 (.inl h.d3), set_other hA.c2 (.inl h.d3), set_other hA.c3 (.inl h.d3), set_other hA.c4 (.inl h.d3)⟩, hc.set (fun g n c e => (ha g n c e).2.2.1) v, ha.mono (by omega)⟩
  · obtain ⟨y, hy, hc, ha⟩ := h.lrn ht
    exact ⟨y, set_other hy (.inr (fun e => hq ht e.symm)), hc.set (fun g n c e => (ha g n c e).2.2.1) v, ha.mono (by omega)⟩

/-- One acceptor laid at index k. -/
theorem Inv.layA {w wr : World} {n k kl t : Nat} {a : Acc} {sb ab lb : Nat} (h : Inv w wr n k kl t a sb ab lb) (hk : k < n) (pr vr : Nat) (pn vn : Int) (x : Value)
    (hx : k = t → pr = a.pr ∧ pn = a.pn ∧ vr = a.vr ∧ vn = a.vn ∧ Copied wr x a.hv a.vb ∧ Aside w wr sb ab lb x) :
    Inv w (((((wr.setCell ⟨ab, k * 5, none⟩ (.int .u64 pr)).setCell ⟨ab, k * 5 + 1, none⟩ (.int .i64 pn)).setCell ⟨ab, k * 5 + 2, none⟩ (.int .u64 vr)).setCell ⟨ab, k * 5 + 3, none⟩ (.int .i64 vn)).setCell ⟨ab, k * 5 + 4, none⟩ x) n (k + 1) kl t a sb ab lb := by
  obtain ⟨u0, e0, _⟩ := h.tha (k * 5) (by omega)
  obtain ⟨u1, e1, _⟩ := h.tha (k * 5 + 1) (by omega)
  obtain ⟨u2, e2, _⟩ := h.tha (k * 5 + 2) (by omega)
  obtain ⟨u3, e3, _⟩ := h.tha (k * 5 + 3) (by omega)
  obtain ⟨u4, e4, _⟩ := h.tha (k * 5 + 4) (by omega)
  have h5 := ((((h.setA (k * 5) (.int .u64 pr) (fun _ => by omega)).setA (k * 5 + 1) (.int .i64 pn) (fun _ => by omega)).setA (k * 5 + 2) (.int .u64 vr) (fun _ => by omega)).setA (k * 5 + 3) (.int .i64 vn) (fun _ => by omega)).setA (k * 5 + 4) x (fun _ => by omega)
  refine { h5 with acc := fun ht => ?_ }
  by_cases e : k = t
  · subst e
    obtain ⟨rfl, rfl, rfl, rfl, hc, ha⟩ := hx rfl
    have hab : ∀ g n c, x = .slice (some ⟨g, 0, none⟩) n c → g ≠ ab := fun g n c e => (ha g n c e).2.1
    refine ⟨x, ⟨?_, ?_, ?_, ?_, ?_⟩, ((((hc.set hab _).set hab _).set hab _).set hab _).set hab _, ha.mono (by simp [World.setCell])⟩
    · exact set_other (set_other (set_other (set_other (World.cell?_setCell_same _ _ _ e0) (.inr (by omega))) (.inr (by omega))) (.inr (by omega))) (.inr (by omega))
    · exact set_other (set_other (set_other (World.cell?_setCell_same _ _ _ (set_other e1 (.inr (by omega)))) (.inr (by omega))) (.inr (by omega))) (.inr (by omega))
    · exact set_other (set_other (World.cell?_setCell_same _ _ _ (set_other (set_other e2 (.inr (by omega))) (.inr (by omega)))) (.inr (by omega))) (.inr (by omega))
    · exact set_other (World.cell?_setCell_same _ _ _ (set_other (set_other (set_other e3 (.inr (by omega))) (.inr (by omega))) (.inr (by omega)))) (.inr (by omega))
    · exact World.cell?_setCell_same _ _ _ (set_other (set_other (set_other (set_other e4 (.inr (by omega))) (.inr (by omega))) (.inr (by omega))) (.inr (by omega)))
  · exact h5.acc (by omega)

/-- One learner laid at index k. -/
theorem Inv.layL {w wr : World} {n ka k t : Nat} {a : Acc} {sb ab lb : Nat} (h : Inv w wr n ka k t a sb ab lb) (hk : k < n) (y : Value)
    (hy : k = t → Copied wr y a.hl a.lb ∧ Aside w wr sb ab lb y) : Inv w (wr.setCell ⟨lb, k, none⟩ y) n ka (k + 1) t a sb ab lb := by
  obtain ⟨u0, e0, _⟩ := h.thl k hk
  have h5 := h.setL k y (fun _ => by omega)
  refine { h5 with lrn := fun ht => ?_ }
  by_cases e : k = t
  · subst e
    obtain ⟨hc, ha⟩ := hy rfl
    exact ⟨y, World.cell?_setCell_same _ _ _ e0, hc.set (fun g n c e => (ha g n c e).2.2.1) _, ha.mono (by simp [World.setCell])⟩
  · exact h5.lrn (by omega)

end Go.Proofs.Ybulkrmk
