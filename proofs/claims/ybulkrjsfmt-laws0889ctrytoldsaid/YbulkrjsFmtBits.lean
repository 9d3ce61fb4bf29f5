/-
  PLAIN ARITHMETIC for the semaphore's word: the top bit of an int64 set, cleared, masked off. No Go text in sight.
-/
import Derived.WalkKit
namespace Go.Proofs.YbulkrjsFmt.Bits
open Go Go.RowKit

/-- The top bit of an int64, as Go's 'math.MinInt64'. -/
def top : Int := -9223372036854775808

theorem wrap_nat (n : Nat) (h : n < 9223372036854775808) : IntKind.i64.wrap (n : Int) = (n : Int) := by
  have e : (n : Int) % 2 ^ 64 = n := Int.emod_eq_of_lt (by omega) (by omega)
  simp only [IntKind.wrap, IntKind.bits, IntKind.signed, e]
  rw [if_neg]
  simp
  omega

theorem wrap_high (n : Nat) (h : n < 9223372036854775808) : IntKind.i64.wrap ((n + 9223372036854775808 : Nat) : Int) = (n : Int) - 9223372036854775808 := by
  have e : ((n + 9223372036854775808 : Nat) : Int) % 2 ^ 64 = (n : Int) + 9223372036854775808 := by omega
  simp only [IntKind.wrap, IntKind.bits, IntKind.signed, e]
  rw [if_pos]
  · omega
  · simp; omega

theorem ofInt_top : (BitVec.ofInt 64 top).toNat = 9223372036854775808 := by decide
theorem not_top : (~~~ BitVec.ofInt 64 top).toNat = 9223372036854775807 := by decide

theorem ofInt_low (h : Int) (h0 : 0 ≤ h) (h1 : h < 9223372036854775808) : (BitVec.ofInt 64 h).toNat = h.toNat := by
  rw [BitVec.toNat_ofInt]
  have : h % ((2 ^ 64 : Nat) : Int) = h := Int.emod_eq_of_lt h0 (by simp; omega)
  rw [this]

theorem ofInt_high (h : Int) (h0 : 0 ≤ h) (h1 : h < 9223372036854775808) : (BitVec.ofInt 64 (h - 9223372036854775808)).toNat = h.toNat + 9223372036854775808 := by
  rw [BitVec.toNat_ofInt]
  have : (h - 9223372036854775808) % ((2 ^ 64 : Nat) : Int) = h + 9223372036854775808 := by simp; omega
  rw [this]
  omega

theorem andNot_low (h : Int) (h0 : 0 ≤ h) (h1 : h < 9223372036854775808) : bits .andNot .i64 h top = h := by
  show IntKind.i64.wrap ((BitVec.ofInt 64 h &&& ~~~ BitVec.ofInt 64 top).toNat : Int) = _
  rw [BitVec.toNat_and, not_top, ofInt_low h h0 h1, nat_mask63, Nat.mod_eq_of_lt (by omega), wrap_nat _ (by omega)]
  omega

theorem andNot_high (h : Int) (h0 : 0 ≤ h) (h1 : h < 9223372036854775808) : bits .andNot .i64 (h - 9223372036854775808) top = h := by
  show IntKind.i64.wrap ((BitVec.ofInt 64 (h - 9223372036854775808) &&& ~~~ BitVec.ofInt 64 top).toNat : Int) = _
  rw [BitVec.toNat_and, not_top, ofInt_high h h0 h1, nat_mask63]
  have : (h.toNat + 9223372036854775808) % 9223372036854775808 = h.toNat := by omega
  rw [this, wrap_nat _ (by omega)]
  omega

theorem or_low (h : Int) (h0 : 0 ≤ h) (h1 : h < 9223372036854775808) : bits .or .i64 h top = h - 9223372036854775808 := by
  show IntKind.i64.wrap ((BitVec.ofInt 64 h ||| BitVec.ofInt 64 top).toNat : Int) = _
  rw [BitVec.toNat_or, ofInt_top, ofInt_low h h0 h1, Nat.or_comm]
  have e := nat_join 63 9223372036854775808 h.toNat (by decide) (by omega)
  rw [e, Nat.add_comm, wrap_high _ (by omega)]
  omega

theorem andNot_or (h : Int) (h0 : 0 ≤ h) (h1 : h < 9223372036854775808) : bits .andNot .i64 (bits .or .i64 h top) top = h := by
  rw [or_low h h0 h1]; exact andNot_high h h0 h1

/-- What Go writes as '^countLocked': all bits but the top one. -/
def rest : Int := 9223372036854775807
theorem ofInt_rest : (BitVec.ofInt 64 rest).toNat = 9223372036854775807 := by decide

/-- The weight h with the top bit set. -/
def lk (h : Int) : Int := h - 9223372036854775808

theorem lk_neg (h : Int) (h1 : h ≤ 9223372036854775807) : lk h < 0 := by unfold lk; omega
theorem lk_le (h n : Int) (d : 9223372036854775808 + n > h) : lk h < n := by unfold lk; omega
theorem or_lk (h : Int) (h0 : 0 ≤ h) (h1 : h ≤ 9223372036854775807) : bits .or .i64 h top = lk h := or_low h h0 (by omega)
theorem andNot_lk (h : Int) (h0 : 0 ≤ h) (h1 : h ≤ 9223372036854775807) : bits .andNot .i64 (lk h) top = h := andNot_high h h0 (by omega)

theorem or_again (h : Int) (h0 : 0 ≤ h) (h1 : h ≤ 9223372036854775807) : bits .or .i64 (lk h) top = lk h := by
  show IntKind.i64.wrap ((BitVec.ofInt 64 (h - 9223372036854775808) ||| BitVec.ofInt 64 top).toNat : Int) = _
  rw [BitVec.toNat_or, ofInt_top, ofInt_high h h0 (by omega)]
  have e := nat_join 63 9223372036854775808 h.toNat (by decide) (by omega)
  have e2 : h.toNat + 9223372036854775808 = 9223372036854775808 ||| h.toNat := by rw [e]; omega
  rw [e2, Nat.or_comm, ← Nat.or_assoc, Nat.or_self, e, Nat.add_comm, wrap_high _ (by omega)]
  unfold lk
  omega

theorem and_lk (h : Int) (h0 : 0 ≤ h) (h1 : h ≤ 9223372036854775807) : bits .and .i64 (lk h) rest = h := by
  show IntKind.i64.wrap ((BitVec.ofInt 64 (h - 9223372036854775808) &&& BitVec.ofInt 64 rest).toNat : Int) = _
  rw [BitVec.toNat_and, ofInt_rest, ofInt_high h h0 (by omega), nat_mask63]
  have : (h.toNat + 9223372036854775808) % 9223372036854775808 = h.toNat := by omega
  rw [this, wrap_nat _ (by omega)]
  omega

/-- Adding to the locked word adds to the weight. -/
theorem lk_add (h n : Int) (h0 : 0 ≤ h) (n0 : 0 ≤ n) (d : h + n ≤ 9223372036854775807) : wrap64 (lk h + n) = lk (h + n) := by
  unfold lk wrap64
  omega

end Go.Proofs.YbulkrjsFmt.Bits
