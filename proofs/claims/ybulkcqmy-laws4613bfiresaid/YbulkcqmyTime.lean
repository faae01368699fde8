import Derived.Test.YbulkcqmyProg
import Derived.WalkKit
import Derived.WalkLawsBesides
import Derived.ProofKit
import Derived.Laws.BitsAllLaws
import Derived.Deep.RegionWith
namespace Go.Proofs.Ybulkcqmy
set_option linter.unusedVariables false
set_option linter.unusedSimpArgs false
open Go.RowKit

/-- x & 0x3fffffff -/
theorem and_nsec (x : Int) (h0 : 0 ≤ x) (h1 : x < 1000000000) : bits .and .u64 x 1073741823 = x := by
  rw [u64_and x 1073741823 h0 (by omega) (by omega) (by omega)]
  have : (1073741823 : Int).toNat = 2 ^ 30 - 1 := rfl
  rw [this, Nat.and_two_pow_sub_one_eq_mod, Nat.mod_eq_of_lt (by omega)]
  omega
theorem and_mono (x : Int) (h0 : 0 ≤ x) (h1 : x < 1000000000) : bits .and .u64 x 9223372036854775808 = 0 := by
  rw [u64_and x 9223372036854775808 h0 (by omega) (by omega) (by omega)]
  have : (9223372036854775808 : Int).toNat = 2 ^ 63 := rfl
  rw [this, nat_bit, Nat.div_eq_of_lt (by omega)]
  rfl
set_option maxHeartbeats 400000 in
theorem nsec_any (b o : Nat) (x : Int) (h0 : 0 ≤ x) (h1 : x < 1000000000) (w : World) (hc : w.cell? ⟨b, o, none⟩ = some (.int .u64 x)) :
    Calls Yba.prog 8 #[.pointer (some ⟨b, o, none⟩)] w fun e w' => e = .returned (.int .i32 x) ∧ w' = w := by
  have h2 := and_nsec x h0 h1
  go_enter Yba.func8, Yba.ntmps8
  go_wp2
  go_ret
  exact ⟨rfl, rfl⟩
set_option maxHeartbeats 400000 in
theorem sec_any (b o : Nat) (x y : Int) (h0 : 0 ≤ x) (h1 : x < 1000000000) (w : World) (hc : w.cell? ⟨b, o, none⟩ = some (.int .u64 x)) (hd : w.cell? ⟨b, o + 1, none⟩ = some (.int .i64 y)) :
    Calls Yba.prog 16 #[.pointer (some ⟨b, o, none⟩)] w fun e w' => e = .returned (.int .i64 y) ∧ w' = w := by
  have h2 := and_mono x h0 h1
  go_enter Yba.func16, Yba.ntmps16
  go_wp2
  go_ret
  exact ⟨rfl, rfl⟩

/-- a time value: t nanoseconds behind the zero time -/
def tmc (t : Int) : Array Value := #[.int .u64 (t % 1000000000), .int .i64 (t / 1000000000), .pointer none]
set_option maxHeartbeats 400000 in
theorem addSec_any (b o : Nat) (x y d : Int) (h0 : 0 ≤ x) (h1 : x < 1000000000) (hy : -100 ≤ y) (hy' : y ≤ 100) (hd0 : -100 ≤ d) (hd1 : d ≤ 100) (w : World) (hc : w.cell? ⟨b, o, none⟩ = some (.int .u64 x)) (hd : w.cell? ⟨b, o + 1, none⟩ = some (.int .i64 y)) (hf : w.frozen? ⟨b, o + 1, none⟩ = false) :
    Calls Yba.prog 9 #[.pointer (some ⟨b, o, none⟩), .int .i64 d] w fun e w' => e = .returned (.tuple #[]) ∧ w' = w.setCell ⟨b, o + 1, none⟩ (.int .i64 (y + d)) := by
  have h2 := and_mono x h0 h1
  have h3 : (decide (y < y + d) == decide (0 < d)) = true := by
    by_cases h : 0 < d
    · simp [h]; omega
    · simp [h]; omega
  go_enter Yba.func9, Yba.ntmps9
  go_wp2
  go_end0
  exact ⟨rfl, rfl⟩

theorem andNot_nsec (x : Int) (h0 : 0 ≤ x) (h1 : x < 1000000000) : bits .andNot .u64 x 1073741823 = 0 := by
  have := u64_andNot x 1073741823 h0 (by omega) (by omega) (by omega)
  rw [this]
  have e : (18446744073709551615 - (1073741823 : Int).toNat) = (2 ^ 34 - 1) * 2 ^ 30 := by decide
  rw [e]
  have hx : x.toNat < 2 ^ 30 := by omega
  have : x.toNat &&& ((2 ^ 34 - 1) * 2 ^ 30) = 0 := by
    apply Nat.eq_of_testBit_eq
    intro i
    simp only [Nat.testBit_and, Nat.zero_testBit, Nat.testBit_mul_two_pow]
    by_cases h : 30 ≤ i
    · rw [Nat.testBit_lt_two_pow (Nat.lt_of_lt_of_le hx (Nat.pow_le_pow_right (by omega) h))]; simp
    · simp [h]
  rw [this]; rfl
theorem or_zero (n : Int) (h0 : 0 ≤ n) (h1 : n < 1000000000) : bits .or .u64 0 n = n := by
  rw [u64_or 0 n (by omega) (by omega) h0 (by omega)]
  simp; omega
theorem tq (d : Int) : -1000000000 < d.tmod 1000000000 ∧ d.tmod 1000000000 < 1000000000 ∧ d.tdiv 1000000000 * 1000000000 + d.tmod 1000000000 = d := by
  have h1 := Int.tdiv_mul_add_tmod d 1000000000
  have h2 := Int.tmod_lt_of_pos d (show (0 : Int) < 1000000000 by omega)
  have h3 : -1000000000 < d.tmod 1000000000 := by
    have := Int.tmod_lt_of_pos (-d) (show (0 : Int) < 1000000000 by omega)
    rw [Int.neg_tmod] at this
    omega
  exact ⟨h3, h2, h1⟩

set_option maxHeartbeats 1000000 in
theorem add_xy (x y d : Int) (h0 : 0 ≤ x) (h1 : x < 1000000000) (hy : -20 ≤ y) (hy' : y ≤ 20) (hd0 : -10000000000 ≤ d) (hd1 : d ≤ 10000000000) (w : World) :
    Calls Yba.prog 4 #[.agg #[.int .u64 x, .int .i64 y, .pointer none], .int .i64 d] w fun e w' => ∃ x' y' : Int, e = .returned (.agg #[.int .u64 x', .int .i64 y', .pointer none]) ∧
      0 ≤ x' ∧ x' < 1000000000 ∧ y' * 1000000000 + x' = y * 1000000000 + x + d ∧ Below w.heap.size w w' := by
  have h2 := and_nsec x h0 h1
  have h3 := and_mono x h0 h1
  have h4 := andNot_nsec x h0 h1
  obtain ⟨k1, k2, k3⟩ := tq d
  have k4 : -20 ≤ d.tdiv 1000000000 := by omega
  have k5 : d.tdiv 1000000000 ≤ 20 := by omega
  have K3 : Hid (d.tdiv 1000000000 * 1000000000 + d.tmod 1000000000 = d) := k3
  clear k3
  by_cases c1 : 1000000000 ≤ x + d.tmod 1000000000
  · have o1 := or_zero (x + d.tmod 1000000000 - 1000000000) (by omega) (by omega)
    have o2 := and_mono (x + d.tmod 1000000000 - 1000000000) (by omega) (by omega)
    go_enter Yba.func4, Yba.ntmps4
    go_wp2_with (first | (go_at_call 8; refine (nsec_any _ _ _ h0 h1 _ ?_).mono ?_; (simp [go_sem]); rintro e w' ⟨rfl, rfl⟩) | (go_at_call 9; refine (addSec_any _ _ (x + d.tmod 1000000000 - 1000000000) y _ (by omega) (by omega) (by omega) (by omega) (by omega) (by omega) _ ?_ ?_ ?_).mono ?_; (simp [go_sem]); (simp [go_sem]); (simp [go_sem]); rintro e w' ⟨rfl, rfl⟩))
    refine bodyPost_ret (v := .agg #[.int .u64 (x + d.tmod 1000000000 - 1000000000), .int .i64 (y + (d.tdiv 1000000000 + 1)), .pointer none]) (by simp [results, Yba.results4, go_sem]) rfl ⟨_, _, rfl, by omega, by omega, by have := K3.out; omega, ?_⟩
    exact ((Below.refl _ _).alloc (Nat.le_refl _) _).alloc (by simp) _
  by_cases c2 : x + d.tmod 1000000000 < 0
  · have o1 := or_zero (x + d.tmod 1000000000 + 1000000000) (by omega) (by omega)
    have o2 := and_mono (x + d.tmod 1000000000 + 1000000000) (by omega) (by omega)
    go_enter Yba.func4, Yba.ntmps4
    go_wp2_with (first | (go_at_call 8; refine (nsec_any _ _ _ h0 h1 _ ?_).mono ?_; (simp [go_sem]); rintro e w' ⟨rfl, rfl⟩) | (go_at_call 9; refine (addSec_any _ _ (x + d.tmod 1000000000 + 1000000000) y _ (by omega) (by omega) (by omega) (by omega) (by omega) (by omega) _ ?_ ?_ ?_).mono ?_; (simp [go_sem]); (simp [go_sem]); (simp [go_sem]); rintro e w' ⟨rfl, rfl⟩))
    refine bodyPost_ret (v := .agg #[.int .u64 (x + d.tmod 1000000000 + 1000000000), .int .i64 (y + (d.tdiv 1000000000 - 1)), .pointer none]) (by simp [results, Yba.results4, go_sem]) rfl ⟨_, _, rfl, by omega, by omega, by have := K3.out; omega, ?_⟩
    exact ((Below.refl _ _).alloc (Nat.le_refl _) _).alloc (by simp) _
  · have o1 := or_zero (x + d.tmod 1000000000) (by omega) (by omega)
    have o2 := and_mono (x + d.tmod 1000000000) (by omega) (by omega)
    go_enter Yba.func4, Yba.ntmps4
    go_wp2_with (first | (go_at_call 8; refine (nsec_any _ _ _ h0 h1 _ ?_).mono ?_; (simp [go_sem]); rintro e w' ⟨rfl, rfl⟩) | (go_at_call 9; refine (addSec_any _ _ (x + d.tmod 1000000000) y _ (by omega) (by omega) (by omega) (by omega) (by omega) (by omega) _ ?_ ?_ ?_).mono ?_; (simp [go_sem]); (simp [go_sem]); (simp [go_sem]); rintro e w' ⟨rfl, rfl⟩))
    refine bodyPost_ret (v := .agg #[.int .u64 (x + d.tmod 1000000000), .int .i64 (y + (d.tdiv 1000000000)), .pointer none]) (by simp [results, Yba.results4, go_sem]) rfl ⟨_, _, rfl, by omega, by omega, by have := K3.out; omega, ?_⟩
    exact ((Below.refl _ _).alloc (Nat.le_refl _) _).alloc (by simp) _

/-- t nanoseconds behind the zero time, as a value -/
def tm (t : Int) : Value := .agg #[.int .u64 (t % 1000000000), .int .i64 (t / 1000000000), .pointer none]

theorem add_any (t d : Int) (ht0 : -10000000000 ≤ t) (ht1 : t ≤ 10000000000) (hd0 : -10000000000 ≤ d) (hd1 : d ≤ 10000000000) (w : World) :
    Calls Yba.prog 4 #[tm t, .int .i64 d] w fun e w' => e = .returned (tm (t + d)) ∧ Below w.heap.size w w' := by
  refine (add_xy (t % 1000000000) (t / 1000000000) d (by omega) (by omega) (by omega) (by omega) hd0 hd1 w).mono ?_
  rintro e w' ⟨x', y', rfl, h1, h2, h3, h4⟩
  refine ⟨?_, h4⟩
  have e1 : x' = (t + d) % 1000000000 := by omega
  have e2 : y' = (t + d) / 1000000000 := by omega
  rw [e1, e2, tm]

theorem and_le (x y : Int) (h0 : 0 ≤ x) (h1 : x < 1000000000) (k0 : 0 ≤ y) (k1 : y < 1000000000) : bits .and .u64 (bits .and .u64 x y) 9223372036854775808 = 0 := by
  rw [u64_and x y h0 (by omega) k0 (by omega)]
  have := Nat.and_le_left (n := x.toNat) (m := y.toNat)
  exact and_mono _ (by omega) (by omega)

set_option maxHeartbeats 1000000 in
theorem equal_xy (x y x' y' : Int) (h0 : 0 ≤ x) (h1 : x < 1000000000) (k0 : 0 ≤ x') (k1 : x' < 1000000000) (w : World) :
    Calls Yba.prog 18 #[.agg #[.int .u64 x, .int .i64 y, .pointer none], .agg #[.int .u64 x', .int .i64 y', .pointer none]] w fun e w' => e = .returned (.bool (y == y' && x == x')) ∧ Below w.heap.size w w' := by
  have h2 := and_le x x' h0 h1 k0 k1
  have m1 := and_mono x h0 h1
  have m2 := and_mono x' k0 k1
  have n1 := and_nsec x h0 h1
  have n2 := and_nsec x' k0 k1
  by_cases c : y = y'
  · subst c
    go_enter Yba.func18, Yba.ntmps18
    go_wp2
    go_ret
    exact ⟨by simp, ((Below.refl _ _).alloc (Nat.le_refl _) _).alloc (by simp) _⟩
  · have c' : (y == y') = false := by simpa using c
    go_enter Yba.func18, Yba.ntmps18
    go_wp2
    go_ret
    exact ⟨by simp [c], ((Below.refl _ _).alloc (Nat.le_refl _) _).alloc (by simp) _⟩

theorem equal_any (a b : Int) (w : World) :
    Calls Yba.prog 18 #[tm a, tm b] w fun e w' => e = .returned (.bool (a == b)) ∧ Below w.heap.size w w' := by
  refine (equal_xy (a % 1000000000) (a / 1000000000) (b % 1000000000) (b / 1000000000) (by omega) (by omega) (by omega) (by omega) w).mono ?_
  rintro e w' ⟨rfl, h⟩
  refine ⟨?_, h⟩
  congr 2
  rw [Bool.eq_iff_iff]
  simp
  omega

set_option maxHeartbeats 1000000 in
theorem before_xy (x y x' y' : Int) (h0 : 0 ≤ x) (h1 : x < 1000000000) (k0 : 0 ≤ x') (k1 : x' < 1000000000) (w : World) :
    Calls Yba.prog 14 #[.agg #[.int .u64 x, .int .i64 y, .pointer none], .agg #[.int .u64 x', .int .i64 y', .pointer none]] w fun e w' => e = .returned (.bool (decide (y < y') || (y == y' && decide (x < x')))) ∧ Below w.heap.size w w' := by
  have h2 := and_le x x' h0 h1 k0 k1
  have m1 := and_mono x h0 h1
  have m2 := and_mono x' k0 k1
  have n1 := and_nsec x h0 h1
  have n2 := and_nsec x' k0 k1
  by_cases c : y = y'
  · subst c
    have c'' : ¬ y < y := by omega
    go_enter Yba.func14, Yba.ntmps14
    go_wp2
    go_ret
    exact ⟨by simp, ((Below.refl _ _).alloc (Nat.le_refl _) _).alloc (by simp) _⟩
  · have c' : (y == y') = false := by simpa using c
    by_cases c2 : y < y'
    · go_enter Yba.func14, Yba.ntmps14
      go_wp2
      go_ret
      exact ⟨by simp [c2], ((Below.refl _ _).alloc (Nat.le_refl _) _).alloc (by simp) _⟩
    · have c3 : decide (y < y') = false := decide_eq_false c2
      go_enter Yba.func14, Yba.ntmps14
      go_wp2
      go_ret
      exact ⟨by simp [c3], ((Below.refl _ _).alloc (Nat.le_refl _) _).alloc (by simp) _⟩

theorem before_any (a b : Int) (w : World) :
    Calls Yba.prog 14 #[tm a, tm b] w fun e w' => e = .returned (.bool (decide (a < b))) ∧ Below w.heap.size w w' := by
  refine (before_xy (a % 1000000000) (a / 1000000000) (b % 1000000000) (b / 1000000000) (by omega) (by omega) (by omega) (by omega) w).mono ?_
  rintro e w' ⟨rfl, h⟩
  refine ⟨?_, h⟩
  congr 2
  rw [Bool.eq_iff_iff]
  simp
  omega
end Go.Proofs.Ybulkcqmy
