/-
  package time on the road: Add, After, Before, Equal, Sub at times without a monotonic reading and without a location.
-/
import Derived.Test.Qxb6612426aProg
import Derived.WalkKit
import Derived.Laws.BitsAllLaws
namespace Go.Proofs.Qxb6612426a.Tm
open Go.RowKit

theorem and_mask (n : Int) (h0 : 0 ≤ n) (h1 : n < 1073741824) : bits .and .u64 n 1073741823 = n := by
  obtain ⟨k, rfl⟩ := Int.eq_ofNat_of_zero_le h0
  rw [show (1073741823 : Int) = ((1073741823 : Nat) : Int) from rfl, u64_and_nat k 1073741823 (by omega) (by omega)]
  rw [show (1073741823 : Nat) = 2 ^ 30 - 1 from rfl, Nat.and_two_pow_sub_one_eq_mod, Nat.mod_eq_of_lt (by omega)]
theorem andNot_mask (n : Int) (h0 : 0 ≤ n) (h1 : n < 1073741824) : bits .andNot .u64 n 1073741823 = 0 := by
  obtain ⟨k, rfl⟩ := Int.eq_ofNat_of_zero_le h0
  rw [show (1073741823 : Int) = ((1073741823 : Nat) : Int) from rfl, u64_andNot_nat k 1073741823 (by omega) (by omega)]
  have : k &&& (18446744073709551615 - 1073741823) = 0 := by
    apply Nat.eq_of_testBit_eq
    intro i
    rw [Nat.testBit_and, show (18446744073709551615 - 1073741823 : Nat) = (2 ^ 34 - 1) * 2 ^ 30 from rfl, Nat.testBit_mul_two_pow]
    by_cases hi : 30 ≤ i
    · rw [Nat.testBit_lt_two_pow (x := k) (i := i) (Nat.lt_of_lt_of_le (by omega : k < 2 ^ 30) (Nat.pow_le_pow_right (by omega) hi))]
      simp
    · simp [hi]
  rw [this]; rfl
theorem and_mono (n : Int) (h0 : 0 ≤ n) (h1 : n < 1073741824) : bits .and .u64 n 9223372036854775808 = 0 := by
  obtain ⟨k, rfl⟩ := Int.eq_ofNat_of_zero_le h0
  rw [show (9223372036854775808 : Int) = ((9223372036854775808 : Nat) : Int) from rfl, u64_and_nat k 9223372036854775808 (by omega) (by omega)]
  rw [show (9223372036854775808 : Nat) = 2 ^ 63 from rfl, nat_bit, show k / 2 ^ 63 = 0 from Nat.div_eq_of_lt (by omega)]
  rfl
theorem or_zero (n : Int) (h0 : 0 ≤ n) (h1 : n < 1073741824) : bits .or .u64 0 n = n := by
  obtain ⟨k, rfl⟩ := Int.eq_ofNat_of_zero_le h0
  rw [show (0 : Int) = ((0 : Nat) : Int) from rfl, u64_or_nat 0 k (by omega) (by omega)]
  simp

set_option maxHeartbeats 400000 in
theorem nsec_any (b o : Nat) (n : Int) (h0 : 0 ≤ n) (h1 : n < 1000000000) (w : World) (hc : w.cell? ⟨b, o, none⟩ = some (.int .u64 n)) :
    Calls Try.prog 20 #[.pointer (some ⟨b, o, none⟩)] w fun e w' => e = .returned (.int .i32 n) ∧ w' = w := by
  have e1 := and_mask n h0 (by omega)
  go_enter Try.func20, Try.ntmps20
  go_wp2
  go_ret
  exact ⟨rfl, rfl⟩

/-- The time x nanoseconds after the zero time, as a value: no monotonic reading, no location. -/
def tm (x : Int) : Value := .agg #[.int .u64 (x % 1000000000), .int .i64 (x / 1000000000), .pointer none]

set_option maxHeartbeats 400000 in
theorem addSec_any (b o : Nat) (n s d : Int) (h0 : 0 ≤ n) (h1 : n < 1000000000) (s0 : -20000000000 ≤ s) (s1 : s ≤ 20000000000) (d0 : -20000000000 ≤ d) (d1 : d ≤ 20000000000) (w : World)
    (hc : w.cell? ⟨b, o, none⟩ = some (.int .u64 n)) (hs : w.cell? ⟨b, o + 1, none⟩ = some (.int .i64 s)) (hf : w.frozen? ⟨b, o + 1, none⟩ = false) :
    Calls Try.prog 21 #[.pointer (some ⟨b, o, none⟩), .int .i64 d] w fun e w' => e = .returned (.tuple #[]) ∧ w' = w.setCell ⟨b, o + 1, none⟩ (.int .i64 (s + d)) := by
  have e1 := and_mono n h0 (by omega)
  by_cases hd : 0 < d
  · have h : s < s + d := by omega
    go_enter Try.func21, Try.ntmps21
    go_wp2
    go_end0
    exact ⟨rfl, rfl⟩
  · have h : ¬ s < s + d := by omega
    go_enter Try.func21, Try.ntmps21
    go_wp2
    go_end0
    exact ⟨rfl, rfl⟩

set_option maxHeartbeats 400000 in
theorem add_A (n s d q r : Int) (h0 : 0 ≤ n) (h1 : n < 1000000000) (s0 : -10000000000 ≤ s) (s1 : s ≤ 10000000000) (q0 : -10000000000 ≤ q) (q1 : q ≤ 10000000000)
    (r0 : -1000000000 < r) (r1 : r < 1000000000) (hq : d.tdiv 1000000000 = q) (hr : d.tmod 1000000000 = r) (w : World) (_hA : 1000000000 ≤ n + r) :
    Calls Try.prog 14 #[.agg #[.int .u64 n, .int .i64 s, .pointer none], .int .i64 d] w fun e w' => e = .returned (.agg #[.int .u64 (n + r - 1000000000), .int .i64 (s + (q + 1)), .pointer none]) ∧ Below w.heap.size w w' := by
  have e2 := andNot_mask n h0 (by omega)
  have e3 := or_zero (n + r - 1000000000) (by omega) (by omega)
  have e4 := and_mono (n + r - 1000000000) (by omega) (by omega)
  go_enter Try.func14, Try.ntmps14
  go_wp2_with (first | (go_at_call 20; refine (nsec_any _ _ n h0 h1 _ (by go_simp)).mono ?_; rintro e w' ⟨rfl, rfl⟩) | (go_at_call 21; refine (addSec_any _ _ (n + r - 1000000000) s (q + 1) (by omega) (by omega) (by omega) (by omega) (by omega) (by omega) _ (by go_simp) (by go_simp) (by go_simp)).mono ?_; rintro e w' ⟨rfl, rfl⟩))
  exact bodyPost_ret (v := .agg #[.int .u64 (n + r - 1000000000), .int .i64 (s + (q + 1)), .pointer none]) (by simp [results, Try.results14, go_sem]) rfl ⟨rfl, ((Below.refl _ _).alloc (Nat.le_refl _) _).alloc (by simp) _⟩

set_option maxHeartbeats 400000 in
theorem add_B (n s d q r : Int) (h0 : 0 ≤ n) (h1 : n < 1000000000) (s0 : -10000000000 ≤ s) (s1 : s ≤ 10000000000) (q0 : -10000000000 ≤ q) (q1 : q ≤ 10000000000)
    (r0 : -1000000000 < r) (r1 : r < 1000000000) (hq : d.tdiv 1000000000 = q) (hr : d.tmod 1000000000 = r) (w : World) (_hA : n + r < 0) :
    Calls Try.prog 14 #[.agg #[.int .u64 n, .int .i64 s, .pointer none], .int .i64 d] w fun e w' => e = .returned (.agg #[.int .u64 (n + r + 1000000000), .int .i64 (s + (q - 1)), .pointer none]) ∧ Below w.heap.size w w' := by
  have e2 := andNot_mask n h0 (by omega)
  have e3 := or_zero (n + r + 1000000000) (by omega) (by omega)
  have e4 := and_mono (n + r + 1000000000) (by omega) (by omega)
  go_enter Try.func14, Try.ntmps14
  go_wp2_with (first | (go_at_call 20; refine (nsec_any _ _ n h0 h1 _ (by go_simp)).mono ?_; rintro e w' ⟨rfl, rfl⟩) | (go_at_call 21; refine (addSec_any _ _ (n + r + 1000000000) s (q - 1) (by omega) (by omega) (by omega) (by omega) (by omega) (by omega) _ (by go_simp) (by go_simp) (by go_simp)).mono ?_; rintro e w' ⟨rfl, rfl⟩))
  exact bodyPost_ret (v := .agg #[.int .u64 (n + r + 1000000000), .int .i64 (s + (q - 1)), .pointer none]) (by simp [results, Try.results14, go_sem]) rfl ⟨rfl, ((Below.refl _ _).alloc (Nat.le_refl _) _).alloc (by simp) _⟩

set_option maxHeartbeats 400000 in
theorem add_C (n s d q r : Int) (h0 : 0 ≤ n) (h1 : n < 1000000000) (s0 : -10000000000 ≤ s) (s1 : s ≤ 10000000000) (q0 : -10000000000 ≤ q) (q1 : q ≤ 10000000000)
    (r0 : -1000000000 < r) (r1 : r < 1000000000) (hq : d.tdiv 1000000000 = q) (hr : d.tmod 1000000000 = r) (w : World) (_hA : 0 ≤ n + r) (_hB : n + r < 1000000000) :
    Calls Try.prog 14 #[.agg #[.int .u64 n, .int .i64 s, .pointer none], .int .i64 d] w fun e w' => e = .returned (.agg #[.int .u64 (n + r), .int .i64 (s + (q)), .pointer none]) ∧ Below w.heap.size w w' := by
  have e2 := andNot_mask n h0 (by omega)
  have e3 := or_zero (n + r) (by omega) (by omega)
  have e4 := and_mono (n + r) (by omega) (by omega)
  go_enter Try.func14, Try.ntmps14
  go_wp2_with (first | (go_at_call 20; refine (nsec_any _ _ n h0 h1 _ (by go_simp)).mono ?_; rintro e w' ⟨rfl, rfl⟩) | (go_at_call 21; refine (addSec_any _ _ (n + r) s (q) (by omega) (by omega) (by omega) (by omega) (by omega) (by omega) _ (by go_simp) (by go_simp) (by go_simp)).mono ?_; rintro e w' ⟨rfl, rfl⟩))
  exact bodyPost_ret (v := .agg #[.int .u64 (n + r), .int .i64 (s + (q)), .pointer none]) (by simp [results, Try.results14, go_sem]) rfl ⟨rfl, ((Below.refl _ _).alloc (Nat.le_refl _) _).alloc (by simp) _⟩

theorem tdm (d : Int) : d.tdiv 1000000000 * 1000000000 + d.tmod 1000000000 = d ∧ -1000000000 < d.tmod 1000000000 ∧ d.tmod 1000000000 < 1000000000 := by
  have h := Int.tmod_add_mul_tdiv d 1000000000
  refine ⟨by omega, ?_, ?_⟩
  · exact Int.lt_tmod_of_pos d (by omega)
  · exact Int.tmod_lt_of_pos d (by omega)

theorem tm_eq (x n s : Int) (h : s * 1000000000 + n = x) (h0 : 0 ≤ n) (h1 : n < 1000000000) : tm x = .agg #[.int .u64 n, .int .i64 s, .pointer none] := by
  unfold tm
  rw [show x % 1000000000 = n by omega, show x / 1000000000 = s by omega]

theorem add_any (x d : Int) (h0 : -9223372036854775809 ≤ x) (h1 : x ≤ 9223372036854775807) (g0 : -9223372036854775808 ≤ d) (g1 : d ≤ 9223372036854775807) (w : World) :
    Calls Try.prog 14 #[tm x, .int .i64 d] w fun e w' => e = .returned (tm (x + d)) ∧ Below w.heap.size w w' := by
  obtain ⟨t0, t1, t2⟩ := tdm d
  generalize hq : d.tdiv 1000000000 = q at *
  generalize hr : d.tmod 1000000000 = r at *
  have hx : x / 1000000000 * 1000000000 + x % 1000000000 = x := by omega
  have n0 : 0 ≤ x % 1000000000 := by omega
  have n1 : x % 1000000000 < 1000000000 := by omega
  rw [tm_eq x _ _ hx n0 n1]
  generalize x % 1000000000 = n at *
  generalize x / 1000000000 = s at *
  by_cases hA : 1000000000 ≤ n + r
  · rw [tm_eq (x + d) (n + r - 1000000000) (s + (q + 1)) (by omega) (by omega) (by omega)]
    exact add_A n s d q r n0 n1 (by omega) (by omega) (by omega) (by omega) t1 t2 hq hr w hA
  · by_cases hB : n + r < 0
    · rw [tm_eq (x + d) (n + r + 1000000000) (s + (q - 1)) (by omega) (by omega) (by omega)]
      exact add_B n s d q r n0 n1 (by omega) (by omega) (by omega) (by omega) t1 t2 hq hr w hB
    · rw [tm_eq (x + d) (n + r) (s + q) (by omega) (by omega) (by omega)]
      exact add_C n s d q r n0 n1 (by omega) (by omega) (by omega) (by omega) t1 t2 hq hr w (by omega) (by omega)
end Go.Proofs.Qxb6612426a.Tm
