import Derived.WalkKit
namespace Go.Proofs.Ybulkcajm.BM
theorem bit_hi (x : Int) (h0 : 0 ≤ x) (h1 : x < 1073741824) : bits .and .u64 x 9223372036854775808 = 0 := by
  rw [u64_and x _ h0 (by omega) (by omega) (by omega)]
  have e : (9223372036854775808 : Int).toNat = 2 ^ 63 := by decide
  rw [e, nat_bit, Nat.div_eq_of_lt (by omega)]; rfl
theorem bit_lo (x : Int) (h0 : 0 ≤ x) (h1 : x < 1073741824) : bits .and .u64 x 1073741823 = x := by
  rw [u64_and x _ h0 (by omega) (by omega) (by omega)]
  have e : (1073741823 : Int).toNat = 2 ^ 30 - 1 := by decide
  rw [e, Nat.and_two_pow_sub_one_eq_mod, Nat.mod_eq_of_lt (by omega)]; omega
theorem bit_or (x : Int) (h0 : 0 ≤ x) (h1 : x < 1073741824) : bits .or .u64 0 x = x := by
  rw [u64_or 0 x (by omega) (by omega) h0 (by omega)]
  have e : (0 : Int).toNat = 0 := rfl
  rw [e, Nat.zero_or]; omega
theorem bit_not : bits .andNot .u64 0 1073741823 = 0 := by
  rw [u64_andNot 0 _ (by omega) (by omega) (by omega) (by omega)]
  have e : (0 : Int).toNat = 0 := rfl
  rw [e, Nat.zero_and]; rfl
theorem bit_two (x y : Int) (h0 : 0 ≤ x) (h1 : x < 1073741824) (g0 : 0 ≤ y) (g1 : y < 1073741824) : bits .and .u64 (bits .and .u64 x y) 9223372036854775808 = 0 := by
  have e : bits .and .u64 x y = ((x.toNat &&& y.toNat : Nat) : Int) := u64_and x y h0 (by omega) g0 (by omega)
  have l : x.toNat &&& y.toNat ≤ x.toNat := Nat.and_le_left
  rw [e]
  exact bit_hi _ (by omega) (by omega)
end Go.Proofs.Ybulkcajm.BM
