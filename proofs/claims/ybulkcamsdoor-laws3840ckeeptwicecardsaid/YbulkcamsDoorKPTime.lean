import Derived.Test.YbulkcamsDoorRows
import Derived.WalkKit
import Derived.WalkSpells
import Derived.WalkLawsBesides
namespace Go.Proofs.YbulkcamsDoor.KP
open Go.RowKit
set_option maxRecDepth 10000
set_option linter.unusedSimpArgs false
set_option linter.unusedVariables false

theorem bit_hi (x : Int) (h0 : 0 ≤ x) (h1 : x < 1073741824) : bits .and .u64 x 9223372036854775808 = 0 := by
  rw [u64_and x _ h0 (by omega) (by omega) (by omega)]
  have e : (9223372036854775808 : Int).toNat = 2 ^ 63 := by decide
  rw [e, nat_bit, Nat.div_eq_of_lt (by omega)]; rfl
theorem bit_lo (x : Int) (h0 : 0 ≤ x) (h1 : x < 1073741824) : bits .and .u64 x 1073741823 = x := by
  rw [u64_and x _ h0 (by omega) (by omega) (by omega)]
  have e : (1073741823 : Int).toNat = 2 ^ 30 - 1 := by decide
  rw [e, Nat.and_two_pow_sub_one_eq_mod, Nat.mod_eq_of_lt (by omega)]; omega
theorem bit_or (x : Int) (h0 : 0 ≤ x) (h1 : x < 1073741824) : bits .or .u64 0 x = x := by
  rw [u64_or 0 x (by omega) (by omega) h0 (by omega)]
  have e : (0 : Int).toNat = 0 := rfl
  rw [e, Nat.zero_or]; omega
theorem bit_not : bits .andNot .u64 0 1073741823 = 0 := by
  rw [u64_andNot 0 _ (by omega) (by omega) (by omega) (by omega)]
  have e : (0 : Int).toNat = 0 := rfl
  rw [e, Nat.zero_and]; rfl

set_option maxHeartbeats 400000 in
theorem nsec_any (b : Nat) (x : Int) (h0 : 0 ≤ x) (h1 : x < 1000000000) (w : World) (hc : w.cell? ⟨b, 0, none⟩ = some (.int .u64 x)) :
    Calls Ybad.prog 11 #[.pointer (some ⟨b, 0, none⟩)] w fun e w' => e = .returned (.int .i32 x) ∧ w' = w := by
  have e := bit_lo x h0 (by omega)
  go_enter Ybad.func11, Ybad.ntmps11
  go_wp2
  go_ret
  exact ⟨rfl, rfl⟩

set_option maxHeartbeats 400000 in
theorem addSec_any (b : Nat) (x s : Int) (h0 : 0 ≤ x) (h1 : x < 1000000000) (w : World) (hc : w.cell? ⟨b, 0, none⟩ = some (.int .u64 x)) (z : Int) (z0 : -10000000000 ≤ z) (z1 : z ≤ 10000000000) (hc1 : w.cell? ⟨b, 1, none⟩ = some (.int .i64 z)) (hf : w.frozen? ⟨b, 1, none⟩ = false)
    (s0 : -10000000000 ≤ s) (s1 : s ≤ 10000000000) :
    Calls Ybad.prog 12 #[.pointer (some ⟨b, 0, none⟩), .int .i64 s] w fun e w' => e = .returned (.tuple #[]) ∧ w' = w.setCell ⟨b, 1, none⟩ (.int .i64 (z + s)) := by
  have e := bit_hi x h0 (by omega)
  by_cases hs : 0 < s
  · have hq : decide (z < z + s) = true := by simp; omega
    go_enter Ybad.func12, Ybad.ntmps12
    go_wp2
    go_end0
    exact ⟨rfl, rfl⟩
  · have hq : decide (z < z + s) = false := by simp; omega
    go_enter Ybad.func12, Ybad.ntmps12
    go_wp2
    go_end0
    exact ⟨rfl, rfl⟩

/-- The time d nanoseconds behind the zero time. -/
def timeOf (d : Int) : Value := .agg #[.int .u64 (d % 1000000000), .int .i64 (d / 1000000000), .pointer none]

set_option maxHeartbeats 400000 in
theorem add_pos (d : Int) (h0 : 0 ≤ d) (h1 : d ≤ 9223372036854775807) (w : World) :
    Calls Ybad.prog 5 #[.agg #[.int .u64 0, .int .i64 0, .pointer none], .int .i64 d] w fun e w' => e = .returned (timeOf d) ∧ Below w.heap.size w w' := by
  have e1 := bit_not
  have e2 := bit_or (d % 1000000000) (by omega) (by omega)
  have e3 := bit_hi (d % 1000000000) (by omega) (by omega)
  go_enter Ybad.func5, Ybad.ntmps5
  go_wp2_with fail
  refine (nsec_any (w.heap.size) 0 (by omega) (by omega) _ (by simp)).mono ?_
  rintro e w1 ⟨rfl, rfl⟩
  go_wp2_with fail
  refine (addSec_any (w.heap.size) (d % 1000000000) (d / 1000000000) (by omega) (by omega) _ (by simp) 0 (by omega) (by omega) (by simp) (by simp) (by omega) (by omega)).mono ?_
  rintro e w1 ⟨rfl, rfl⟩
  go_wp2_with fail
  refine bodyPost_ret (v := timeOf d) (by simp [results, Ybad.results5, go_sem, timeOf]) rfl ⟨rfl, ?_⟩
  exact ((Below.refl _ _).alloc (Nat.le_refl _) _).alloc (by simp) _

set_option maxHeartbeats 400000 in
theorem add_neg (d : Int) (h0 : -9223372036854775808 ≤ d) (h1 : d < 0) (hr : 0 < (-d) % 1000000000) (w : World) :
    Calls Ybad.prog 5 #[.agg #[.int .u64 0, .int .i64 0, .pointer none], .int .i64 d] w fun e w' => e = .returned (timeOf d) ∧ Below w.heap.size w w' := by
  have e0 : d.tdiv 1000000000 = -((-d) / 1000000000) := by rw [show d = -(-d) by omega, Int.neg_tdiv, Int.tdiv_eq_ediv_of_nonneg (by omega)]; simp
  have e0' : d.tmod 1000000000 = -((-d) % 1000000000) := by rw [show d = -(-d) by omega, Int.neg_tmod, Int.tmod_eq_emod_of_nonneg (by omega)]; simp
  have q1 : -((-d) / 1000000000) - 1 = d / 1000000000 := by omega
  have q2 : -((-d) % 1000000000) + 1000000000 = d % 1000000000 := by omega
  have e1 := bit_not
  have e2 := bit_or (d % 1000000000) (by omega) (by omega)
  have e3 := bit_hi (d % 1000000000) (by omega) (by omega)
  go_enter Ybad.func5, Ybad.ntmps5
  go_wp2_with fail
  refine (nsec_any (w.heap.size) 0 (by omega) (by omega) _ (by simp)).mono ?_
  rintro e w1 ⟨rfl, rfl⟩
  go_wp2_with fail
  refine (addSec_any (w.heap.size) (d % 1000000000) (d / 1000000000) (by omega) (by omega) _ (by simp) 0 (by omega) (by omega) (by simp) (by simp) (by omega) (by omega)).mono ?_
  rintro e w1 ⟨rfl, rfl⟩
  go_wp2_with fail
  refine bodyPost_ret (v := timeOf d) (by simp [results, Ybad.results5, go_sem, timeOf]) rfl ⟨rfl, ?_⟩
  exact ((Below.refl _ _).alloc (Nat.le_refl _) _).alloc (by simp) _

set_option maxHeartbeats 400000 in
theorem add_neg0 (d : Int) (h0 : -9223372036854775808 ≤ d) (h1 : d < 0) (hr : (-d) % 1000000000 < 1) (w : World) :
    Calls Ybad.prog 5 #[.agg #[.int .u64 0, .int .i64 0, .pointer none], .int .i64 d] w fun e w' => e = .returned (timeOf d) ∧ Below w.heap.size w w' := by
  have e0 : d.tdiv 1000000000 = d / 1000000000 := by rw [show d.tdiv 1000000000 = -((-d) / 1000000000) by rw [show d = -(-d) by omega, Int.neg_tdiv, Int.tdiv_eq_ediv_of_nonneg (by omega)]; simp]; omega
  have e0' : d.tmod 1000000000 = d % 1000000000 := by rw [show d.tmod 1000000000 = -((-d) % 1000000000) by rw [show d = -(-d) by omega, Int.neg_tmod, Int.tmod_eq_emod_of_nonneg (by omega)]; simp]; omega
  have e1 := bit_not
  have e2 := bit_or (d % 1000000000) (by omega) (by omega)
  have e3 := bit_hi (d % 1000000000) (by omega) (by omega)
  clear hr
  go_enter Ybad.func5, Ybad.ntmps5
  go_wp2_with fail
  refine (nsec_any (w.heap.size) 0 (by omega) (by omega) _ (by simp)).mono ?_
  rintro e w1 ⟨rfl, rfl⟩
  go_wp2_with fail
  refine (addSec_any (w.heap.size) (d % 1000000000) (d / 1000000000) (by omega) (by omega) _ (by simp) 0 (by omega) (by omega) (by simp) (by simp) (by omega) (by omega)).mono ?_
  rintro e w1 ⟨rfl, rfl⟩
  go_wp2_with fail
  refine bodyPost_ret (v := timeOf d) (by simp [results, Ybad.results5, go_sem, timeOf]) rfl ⟨rfl, ?_⟩
  exact ((Below.refl _ _).alloc (Nat.le_refl _) _).alloc (by simp) _

theorem add_zero (d : Int) (h0 : -9223372036854775808 ≤ d) (h1 : d ≤ 9223372036854775807) (w : World) :
    Calls Ybad.prog 5 #[.agg #[.int .u64 0, .int .i64 0, .pointer none], .int .i64 d] w fun e w' => e = .returned (timeOf d) ∧ Below w.heap.size w w' := by
  by_cases hd : 0 ≤ d
  · exact add_pos d hd h1 w
  · by_cases hr : 0 < (-d) % 1000000000
    · exact add_neg d h0 (by omega) hr w
    · exact add_neg0 d h0 (by omega) (by omega) w


theorem bit_not2 (x : Int) (h0 : 0 ≤ x) (h1 : x < 1073741824) : bits .andNot .u64 x 1073741823 = 0 := by
  rw [u64_andNot x _ h0 (by omega) (by omega) (by omega)]
  have e : (18446744073709551615 : Nat) - (1073741823 : Int).toNat = 2 ^ 30 * 17179869183 := by decide
  have k : x.toNat &&& 2 ^ 30 * 17179869183 = 0 := by
    apply Nat.eq_of_testBit_eq
    intro i
    rw [Nat.testBit_and, Nat.testBit_two_pow_mul, Nat.zero_testBit]
    by_cases hi : 30 ≤ i
    · have : x.toNat.testBit i = false := Nat.testBit_lt_two_pow (Nat.lt_of_lt_of_le (by omega : x.toNat < 2 ^ 30) (Nat.pow_le_pow_right (by omega) hi))
      simp [this]
    · simp [hi]
  rw [e, k]; rfl

set_option maxHeartbeats 400000 in
theorem add_90 (n s : Int) (h0 : 0 ≤ n) (h1 : n < 1000000000) (s0 : -9223372037 ≤ s) (s1 : s ≤ 9223372037) (w : World) :
    Calls Ybad.prog 5 #[.agg #[.int .u64 n, .int .i64 s, .pointer none], .int .i64 90000000000] w fun e w' => e = .returned (.agg #[.int .u64 n, .int .i64 (s + 90), .pointer none]) ∧ Below w.heap.size w w' := by
  have e1 := bit_not2 n h0 (by omega)
  have e2 := bit_or n h0 (by omega)
  have e3 := bit_hi n h0 (by omega)
  go_enter Ybad.func5, Ybad.ntmps5
  go_wp2_with fail
  refine (nsec_any (w.heap.size) n (by omega) (by omega) _ (by simp)).mono ?_
  rintro e w1 ⟨rfl, rfl⟩
  go_wp2_with fail
  refine (addSec_any (w.heap.size) n 90 (by omega) (by omega) _ (by simp) s (by omega) (by omega) (by simp) (by simp) (by omega) (by omega)).mono ?_
  rintro e w1 ⟨rfl, rfl⟩
  go_wp2_with fail
  refine bodyPost_ret (v := .agg #[.int .u64 n, .int .i64 (s + 90), .pointer none]) (by simp [results, Ybad.results5, go_sem]) rfl ⟨rfl, ?_⟩
  exact ((Below.refl _ _).alloc (Nat.le_refl _) _).alloc (by simp) _

def untilOf (d : Int) : Value := .agg #[.int .u64 (d % 1000000000), .int .i64 (d / 1000000000 + 90), .pointer none]

theorem add_until (d : Int) (h0 : -9223372036854775808 ≤ d) (h1 : d ≤ 9223372036854775807) (w : World) :
    Calls Ybad.prog 5 #[timeOf d, .int .i64 90000000000] w fun e w' => e = .returned (untilOf d) ∧ Below w.heap.size w w' :=
  add_90 _ _ (by omega) (by omega) (by omega) (by omega) w
end Go.Proofs.YbulkcamsDoor.KP
