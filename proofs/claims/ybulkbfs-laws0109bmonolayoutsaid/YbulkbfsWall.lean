/-
  THE PLAIN LAWS: what the word that makeTime builds holds; where the seconds lie in the span. No Go in sight.
-/
import Derived.Test.YbulkbfsTime
namespace Go.Proofs.Ybulkbfs
open Go.RowKit

theorem u64_id (n : Int) (h0 : 0 ≤ n) (h1 : n < 18446744073709551616) : IntKind.u64.wrap n = n := by
  rw [IntKind.wrap_u64]; omega

theorem in_span (s : Int) (c1 : 59453308800 ≤ s) (c2 : s < 68043243392) : IntKind.u64.wrap (wrap64 (s - 59453308800)) = s - 59453308800 := by
  have e : wrap64 (s - 59453308800) = s - 59453308800 := by unfold wrap64; omega
  rw [e]; exact u64_id _ (by omega) (by omega)

theorem in_span_lt (s : Int) (c1 : 59453308800 ≤ s) (c2 : s < 68043243392) : IntKind.u64.wrap (wrap64 (s - 59453308800)) < 8589934592 := by
  rw [in_span s c1 c2]; omega

theorem out_span (s : Int) (b1 : -9223372036854775808 ≤ s) (b2 : s ≤ 9223372036854775807) (c : s < 59453308800 ∨ 68043243392 ≤ s) : 8589934592 ≤ IntKind.u64.wrap (wrap64 (s - 59453308800)) := by
  rw [IntKind.wrap_u64]
  unfold wrap64
  omega

theorem or_join (i : Nat) (x y : Int) (hx0 : 0 ≤ x) (hx1 : x < 18446744073709551616) (hy0 : 0 ≤ y) (hy1 : y < 18446744073709551616) (hx : x.toNat % 2 ^ i = 0) (hy : y.toNat < 2 ^ i) : bits .or .u64 x y = x + y := by
  rw [u64_or x y hx0 hx1 hy0 hy1, nat_join i _ _ hx hy]
  omega

theorem wall_eq (s n : Int) (c1 : 59453308800 ≤ s) (c2 : s < 68043243392) (n0 : 0 ≤ n) (n1 : n < 1073741824) : wallRaw s n = 9223372036854775808 + (s - 59453308800) * 1073741824 + n := by
  unfold wallRaw
  rw [in_span s c1 c2, u64_id n n0 (by omega), u64_id ((s - 59453308800) * 1073741824) (by omega) (by omega)]
  rw [or_join 63 9223372036854775808 ((s - 59453308800) * 1073741824) (by omega) (by omega) (by omega) (by omega) (by decide) (by omega)]
  rw [or_join 30 (9223372036854775808 + (s - 59453308800) * 1073741824) n (by omega) (by omega) n0 (by omega) (by omega) (by omega)]

theorem top_bit (X s n : Int) (h : X = 9223372036854775808 + (s - 59453308800) * 1073741824 + n) (c1 : 59453308800 ≤ s) (c2 : s < 68043243392) (n0 : 0 ≤ n) (n1 : n < 1073741824) : (X / 9223372036854775808 != 1) = false := by
  have : X / 9223372036854775808 = 1 := by omega
  rw [this]; rfl

theorem and_mask (i : Nat) (x m : Int) (hx0 : 0 ≤ x) (hx1 : x < 18446744073709551616) (hm0 : 0 ≤ m) (hm1 : m < 18446744073709551616) (hm : m.toNat = 2 ^ i - 1) : bits .and .u64 x m = x % (2 ^ i : Nat) := by
  rw [u64_and x m hx0 hx1 hm0 hm1, hm, Nat.and_two_pow_sub_one_eq_mod]
  have e : x = (x.toNat : Int) := by omega
  generalize x.toNat = k at e
  subst e
  exact Int.natCast_emod k (2 ^ i)

theorem mid_bits (X s n : Int) (h : X = 9223372036854775808 + (s - 59453308800) * 1073741824 + n) (c1 : 59453308800 ≤ s) (c2 : s < 68043243392) (n0 : 0 ≤ n) (n1 : n < 1073741824) : (bits .and .u64 (X / 1073741824) 8589934591 != s - 59453308800) = false := by
  rw [and_mask 33 (X / 1073741824) 8589934591 (by omega) (by omega) (by omega) (by omega) (by decide)]
  have : X / 1073741824 % ((2 ^ 33 : Nat) : Int) = s - 59453308800 := by omega
  rw [this]; simp

theorem low_bits (X s n : Int) (h : X = 9223372036854775808 + (s - 59453308800) * 1073741824 + n) (c1 : 59453308800 ≤ s) (c2 : s < 68043243392) (n0 : 0 ≤ n) (n1 : n < 1073741824) : (bits .and .u64 X 1073741823 != n) = false := by
  rw [and_mask 30 X 1073741823 (by omega) (by omega) (by omega) (by omega) (by decide)]
  have : X % ((2 ^ 30 : Nat) : Int) = n := by omega
  rw [this]; simp

end Go.Proofs.Ybulkbfs
