/-
  PLAIN: what the masks and shifts make of a node's word 'kc = kind * 2^28 + c'.
-/
import Derived.Laws.BitsAllLaws
namespace Go.Proofs.Ybulkpng

theorem and_mask (kc : Int) (h0 : 0 ≤ kc) (h1 : kc < 4294967296) : bits .and .u32 kc 268435455 = kc % 268435456 := by
  rw [u32_and kc 268435455 h0 h1 (by decide) (by decide)]
  have e : (268435455 : Int).toNat = 2 ^ 28 - 1 := by decide
  rw [e, Nat.and_two_pow_sub_one_eq_mod]
  have e2 : (2 : Nat) ^ 28 = 268435456 := by decide
  rw [e2]
  omega

theorem or_parts (K cc : Int) (h0 : 0 ≤ K) (h1 : K < 16) (h2 : 0 ≤ cc) (h3 : cc < 268435456) : bits .or .u32 (K * 268435456) cc = K * 268435456 + cc := by
  rw [u32_or (K * 268435456) cc (by omega) (by omega) h2 (by omega)]
  have e : (K * 268435456).toNat = 2 ^ 28 * K.toNat := by
    have e2 : (2 : Nat) ^ 28 = 268435456 := by decide
    rw [e2]
    omega
  rw [e, ← Nat.two_pow_add_eq_or_of_lt (by
    have e2 : (2 : Nat) ^ 28 = 268435456 := by decide
    rw [e2]
    omega)]
  have e2 : (2 : Nat) ^ 28 = 268435456 := by decide
  rw [e2]
  omega

end Go.Proofs.Ybulkpng
