import Derived.Test.YbulkcajmRows
import Derived.Test.YbulkcajmBMBits
import Derived.WalkKit
import Derived.WalkSpells
import Derived.WalkLawsBesides
import Derived.Deep.QuietTactic
import Derived.BigQuiet
namespace Go.Proofs.Ybulkcajm.BM
open Go.RowKit
set_option maxRecDepth 10000

/-- What zzs3834bkey gives. -/
def keyN (a : Int) : Int := if a % 4 ≤ 1 then 0 else if a % 4 = 2 then 1 else 2

set_option maxHeartbeats 400000 in
theorem key_any (a : Int) (h0 : 0 ≤ a) (h1 : a ≤ 255) (w : World) :
    Calls Yba.prog 9 #[.int .u8 a] w fun e w' => e = .returned (.int .u8 (keyN a)) ∧ w' = w := by
  rcases (show a % 4 = 0 ∨ a % 4 = 1 ∨ a % 4 = 2 ∨ a % 4 = 3 from by omega) with h | h | h | h <;>
  · have H : Hid (a % 4 = _) := h
    go_enter Yba.func9, Yba.ntmps9
    go_wp2
    go_ret
    exact ⟨by unfold keyN; rw [H.out]; rfl, rfl⟩

set_option maxHeartbeats 400000 in
theorem nsec_any (b : Nat) (x : Int) (h0 : 0 ≤ x) (h1 : x < 1000000000) (w : World) (hc : w.cell? ⟨b, 0, none⟩ = some (.int .u64 x)) :
    Calls Yba.prog 18 #[.pointer (some ⟨b, 0, none⟩)] w fun e w' => e = .returned (.int .i32 x) ∧ w' = w := by
  have e := bit_lo x h0 (by omega)
  go_enter Yba.func18, Yba.ntmps18
  go_wp2
  go_ret
  exact ⟨rfl, rfl⟩

set_option maxHeartbeats 400000 in
theorem sec_any (b : Nat) (x s : Int) (h0 : 0 ≤ x) (h1 : x < 1000000000) (w : World) (hc : w.cell? ⟨b, 0, none⟩ = some (.int .u64 x)) (hc1 : w.cell? ⟨b, 1, none⟩ = some (.int .i64 s)) :
    Calls Yba.prog 29 #[.pointer (some ⟨b, 0, none⟩)] w fun e w' => e = .returned (.int .i64 s) ∧ w' = w := by
  have e := bit_hi x h0 (by omega)
  go_enter Yba.func29, Yba.ntmps29
  go_wp2
  go_ret
  exact ⟨rfl, rfl⟩

set_option maxHeartbeats 400000 in
theorem addSec_any (b : Nat) (x s : Int) (h0 : 0 ≤ x) (h1 : x < 1000000000) (w : World) (hc : w.cell? ⟨b, 0, none⟩ = some (.int .u64 x)) (hc1 : w.cell? ⟨b, 1, none⟩ = some (.int .i64 0)) (hf : w.frozen? ⟨b, 1, none⟩ = false)
    (s0 : -10000000000 ≤ s) (s1 : s ≤ 10000000000) :
    Calls Yba.prog 19 #[.pointer (some ⟨b, 0, none⟩), .int .i64 s] w fun e w' => e = .returned (.tuple #[]) ∧ w' = w.setCell ⟨b, 1, none⟩ (.int .i64 s) := by
  have e := bit_hi x h0 (by omega)
  by_cases hs : 0 < s
  · go_enter Yba.func19, Yba.ntmps19
    go_wp2
    go_end0
    exact ⟨rfl, rfl⟩
  · go_enter Yba.func19, Yba.ntmps19
    go_wp2
    go_end0
    exact ⟨rfl, rfl⟩

/-- The time d nanoseconds behind the zero time. -/
def timeOf (d : Int) : Value := .agg #[.int .u64 (d % 1000000000), .int .i64 (d / 1000000000), .pointer none]

set_option maxHeartbeats 400000 in
theorem add_pos (d : Int) (h0 : 0 ≤ d) (h1 : d ≤ 9223372036854775807) (w : World) :
    Calls Yba.prog 8 #[.agg #[.int .u64 0, .int .i64 0, .pointer none], .int .i64 d] w fun e w' => e = .returned (timeOf d) ∧ Below w.heap.size w w' := by
  have e1 := bit_not
  have e2 := bit_or (d % 1000000000) (by omega) (by omega)
  have e3 := bit_hi (d % 1000000000) (by omega) (by omega)
  go_enter Yba.func8, Yba.ntmps8
  go_wp2_with fail
  refine (nsec_any (w.heap.size) 0 (by omega) (by omega) _ (by simp)).mono ?_
  rintro e w1 ⟨rfl, rfl⟩
  go_wp2_with fail
  refine (addSec_any (w.heap.size) (d % 1000000000) (d / 1000000000) (by omega) (by omega) _ (by simp) (by simp) (by simp) (by omega) (by omega)).mono ?_
  rintro e w1 ⟨rfl, rfl⟩
  go_wp2_with fail
  refine bodyPost_ret (v := timeOf d) (by simp [results, Yba.results8, go_sem, timeOf]) rfl ⟨rfl, ?_⟩
  exact ((Below.refl _ _).alloc (Nat.le_refl _) _).alloc (by simp) _

set_option maxHeartbeats 400000 in
theorem add_neg (d : Int) (h0 : -9223372036854775808 ≤ d) (h1 : d < 0) (hr : 0 < (-d) % 1000000000) (w : World) :
    Calls Yba.prog 8 #[.agg #[.int .u64 0, .int .i64 0, .pointer none], .int .i64 d] w fun e w' => e = .returned (timeOf d) ∧ Below w.heap.size w w' := by
  have e0 : d.tdiv 1000000000 = -((-d) / 1000000000) := by rw [show d = -(-d) by omega, Int.neg_tdiv, Int.tdiv_eq_ediv_of_nonneg (by omega)]; simp
  have e0' : d.tmod 1000000000 = -((-d) % 1000000000) := by rw [show d = -(-d) by omega, Int.neg_tmod, Int.tmod_eq_emod_of_nonneg (by omega)]; simp
  have q1 : -((-d) / 1000000000) - 1 = d / 1000000000 := by omega
  have q2 : -((-d) % 1000000000) + 1000000000 = d % 1000000000 := by omega
  have e1 := bit_not
  have e2 := bit_or (d % 1000000000) (by omega) (by omega)
  have e3 := bit_hi (d % 1000000000) (by omega) (by omega)
  go_enter Yba.func8, Yba.ntmps8
  go_wp2_with fail
  refine (nsec_any (w.heap.size) 0 (by omega) (by omega) _ (by simp)).mono ?_
  rintro e w1 ⟨rfl, rfl⟩
  go_wp2_with fail
  refine (addSec_any (w.heap.size) (d % 1000000000) (d / 1000000000) (by omega) (by omega) _ (by simp) (by simp) (by simp) (by omega) (by omega)).mono ?_
  rintro e w1 ⟨rfl, rfl⟩
  go_wp2_with fail
  refine bodyPost_ret (v := timeOf d) (by simp [results, Yba.results8, go_sem, timeOf]) rfl ⟨rfl, ?_⟩
  exact ((Below.refl _ _).alloc (Nat.le_refl _) _).alloc (by simp) _

set_option maxHeartbeats 400000 in
theorem add_neg0 (d : Int) (h0 : -9223372036854775808 ≤ d) (h1 : d < 0) (hr : (-d) % 1000000000 < 1) (w : World) :
    Calls Yba.prog 8 #[.agg #[.int .u64 0, .int .i64 0, .pointer none], .int .i64 d] w fun e w' => e = .returned (timeOf d) ∧ Below w.heap.size w w' := by
  have e0 : d.tdiv 1000000000 = d / 1000000000 := by rw [show d.tdiv 1000000000 = -((-d) / 1000000000) by rw [show d = -(-d) by omega, Int.neg_tdiv, Int.tdiv_eq_ediv_of_nonneg (by omega)]; simp]; omega
  have e0' : d.tmod 1000000000 = d % 1000000000 := by rw [show d.tmod 1000000000 = -((-d) % 1000000000) by rw [show d = -(-d) by omega, Int.neg_tmod, Int.tmod_eq_emod_of_nonneg (by omega)]; simp]; omega
  have e1 := bit_not
  have e2 := bit_or (d % 1000000000) (by omega) (by omega)
  have e3 := bit_hi (d % 1000000000) (by omega) (by omega)
  clear hr
  go_enter Yba.func8, Yba.ntmps8
  go_wp2_with fail
  refine (nsec_any (w.heap.size) 0 (by omega) (by omega) _ (by simp)).mono ?_
  rintro e w1 ⟨rfl, rfl⟩
  go_wp2_with fail
  refine (addSec_any (w.heap.size) (d % 1000000000) (d / 1000000000) (by omega) (by omega) _ (by simp) (by simp) (by simp) (by omega) (by omega)).mono ?_
  rintro e w1 ⟨rfl, rfl⟩
  go_wp2_with fail
  refine bodyPost_ret (v := timeOf d) (by simp [results, Yba.results8, go_sem, timeOf]) rfl ⟨rfl, ?_⟩
  exact ((Below.refl _ _).alloc (Nat.le_refl _) _).alloc (by simp) _

theorem add_zero (d : Int) (h0 : -9223372036854775808 ≤ d) (h1 : d ≤ 9223372036854775807) (w : World) :
    Calls Yba.prog 8 #[.agg #[.int .u64 0, .int .i64 0, .pointer none], .int .i64 d] w fun e w' => e = .returned (timeOf d) ∧ Below w.heap.size w w' := by
  by_cases hd : 0 ≤ d
  · exact add_pos d hd h1 w
  · by_cases hr : 0 < (-d) % 1000000000
    · exact add_neg d h0 (by omega) hr w
    · exact add_neg0 d h0 (by omega) (by omega) w

/-- 't.After(u)' over seconds and nanoseconds. -/
def aftB (s n t m : Int) : Bool := decide (t < s ∨ s = t ∧ m < n)

set_option maxHeartbeats 800000 in
theorem after_core (s n t m : Int) (n0 : 0 ≤ n) (n1 : n < 1000000000) (m0 : 0 ≤ m) (m1 : m < 1000000000) (w : World) :
    Calls Yba.prog 15 #[.agg #[.int .u64 n, .int .i64 s, .pointer none], .agg #[.int .u64 m, .int .i64 t, .pointer none]] w fun e w' => e = .returned (.bool (aftB s n t m)) ∧ Below w.heap.size w w' := by
  have e1 := bit_two n m n0 (by omega) m0 (by omega)
  rcases (show t < s ∨ s < t ∨ s = t from by omega) with h | h | h
  · have H : Hid (aftB s n t m = true) := by unfold Hid aftB; simp; omega
    go_enter Yba.func15, Yba.ntmps15
    go_wp2_with fail
    refine (sec_any w.heap.size n s n0 n1 _ (by simp) (by simp)).mono ?_
    rintro e w1 ⟨rfl, rfl⟩
    go_wp2_with fail
    refine (sec_any (w.heap.size + 1) m t m0 m1 _ (by simp) (by simp)).mono ?_
    rintro e w1 ⟨rfl, rfl⟩
    go_wp2_with fail
    go_ret
    exact ⟨by rw [H.out]; rfl, ((Below.refl _ _).alloc (Nat.le_refl _) _).alloc (by simp) _⟩
  · have H : Hid (aftB s n t m = decide (t < s)) := by unfold Hid aftB; rw [decide_eq_decide]; omega
    have hq : (s == t) = false := by simp; omega
    go_enter Yba.func15, Yba.ntmps15
    go_wp2_with fail
    refine (sec_any w.heap.size n s n0 n1 _ (by simp) (by simp)).mono ?_
    rintro e w1 ⟨rfl, rfl⟩
    go_wp2_with fail
    refine (sec_any (w.heap.size + 1) m t m0 m1 _ (by simp) (by simp)).mono ?_
    rintro e w1 ⟨rfl, rfl⟩
    go_wp2_with fail
    go_ret
    exact ⟨by rw [H.out]; rfl, ((Below.refl _ _).alloc (Nat.le_refl _) _).alloc (by simp) _⟩
  · subst h
    have H : Hid (aftB s n s m = decide (m < n)) := by unfold Hid aftB; simp
    go_enter Yba.func15, Yba.ntmps15
    go_wp2_with fail
    refine (sec_any w.heap.size n s n0 n1 _ (by simp) (by simp)).mono ?_
    rintro e w1 ⟨rfl, rfl⟩
    go_wp2_with fail
    refine (sec_any (w.heap.size + 1) m s m0 m1 _ (by simp) (by simp)).mono ?_
    rintro e w1 ⟨rfl, rfl⟩
    go_wp2_with fail
    refine (nsec_any w.heap.size n n0 n1 _ (by simp)).mono ?_
    rintro e w1 ⟨rfl, rfl⟩
    go_wp2_with fail
    refine (nsec_any (w.heap.size + 1) m m0 m1 _ (by simp)).mono ?_
    rintro e w1 ⟨rfl, rfl⟩
    go_wp2_with fail
    go_ret
    exact ⟨by rw [H.out]; rfl, ((Below.refl _ _).alloc (Nat.le_refl _) _).alloc (by simp) _⟩

theorem after_any (d c : Int) (w : World) :
    Calls Yba.prog 15 #[timeOf d, timeOf c] w fun e w' => e = .returned (.bool (decide (c < d))) ∧ Below w.heap.size w w' := by
  have h : aftB (d / 1000000000) (d % 1000000000) (c / 1000000000) (c % 1000000000) = decide (c < d) := by
    unfold aftB
    rw [decide_eq_decide]
    omega
  rw [← h]
  exact after_core _ _ _ _ (by omega) (by omega) (by omega) (by omega) w
end Go.Proofs.Ybulkcajm.BM
