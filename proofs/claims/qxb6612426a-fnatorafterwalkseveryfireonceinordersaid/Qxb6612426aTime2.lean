/-
  package time on the road, the rest: After, Before, Equal, Sub.
-/
import Derived.Test.Qxb6612426aTime
import Derived.Deep.QuietTactic
import Derived.BigQuiet
namespace Go.Proofs.Qxb6612426a.Tm
open Go.RowKit

theorem and_mono2 (n m : Int) (h0 : 0 ≤ n) (h1 : n < 1073741824) (g0 : 0 ≤ m) (g1 : m < 1073741824) : bits .and .u64 (bits .and .u64 n m) 9223372036854775808 = 0 := by
  rw [u64_and n m h0 (by omega) g0 (by omega)]
  have h : n.toNat &&& m.toNat ≤ n.toNat := Nat.and_le_left
  exact and_mono _ (by omega) (by omega)

set_option maxHeartbeats 400000 in
theorem sec_any (b o : Nat) (n s : Int) (h0 : 0 ≤ n) (h1 : n < 1000000000) (w : World)
    (hc : w.cell? ⟨b, o, none⟩ = some (.int .u64 n)) (hs : w.cell? ⟨b, o + 1, none⟩ = some (.int .i64 s)) :
    Calls Try.prog 23 #[.pointer (some ⟨b, o, none⟩)] w fun e w' => e = .returned (.int .i64 s) ∧ w' = w := by
  have e1 := and_mono n h0 (by omega)
  go_enter Try.func23, Try.ntmps23
  go_wp2
  go_ret
  exact ⟨rfl, rfl⟩

set_option maxHeartbeats 400000 in
theorem after_A (n s m t : Int) (h0 : 0 ≤ n) (h1 : n < 1000000000) (g0 : 0 ≤ m) (g1 : m < 1000000000) (w : World) (_hc : t < s) :
    Calls Try.prog 16 #[.agg #[.int .u64 n, .int .i64 s, .pointer none], .agg #[.int .u64 m, .int .i64 t, .pointer none]] w fun e w' => e = .returned (.bool true) ∧ Below w.heap.size w w' := by
  have e1 := and_mono2 n m h0 (by omega) g0 (by omega)
  have e2 := and_mono n h0 (by omega)
  have e3 := and_mono m g0 (by omega)
  have e4 := and_mask n h0 (by omega)
  have e5 := and_mask m g0 (by omega)
  go_enter Try.func16, Try.ntmps16
  go_wp2
  go_ret
  exact ⟨rfl, ((Below.refl _ _).alloc (Nat.le_refl _) _).alloc (by simp) _⟩

set_option maxHeartbeats 400000 in
theorem after_B (n s m t : Int) (h0 : 0 ≤ n) (h1 : n < 1000000000) (g0 : 0 ≤ m) (g1 : m < 1000000000) (w : World) (_hc : s < t) :
    Calls Try.prog 16 #[.agg #[.int .u64 n, .int .i64 s, .pointer none], .agg #[.int .u64 m, .int .i64 t, .pointer none]] w fun e w' => e = .returned (.bool (decide (t < s))) ∧ Below w.heap.size w w' := by
  have e1 := and_mono2 n m h0 (by omega) g0 (by omega)
  have e2 := and_mono n h0 (by omega)
  have e3 := and_mono m g0 (by omega)
  have e4 := and_mask n h0 (by omega)
  have e5 := and_mask m g0 (by omega)
  go_enter Try.func16, Try.ntmps16
  go_wp2
  go_ret
  exact ⟨rfl, ((Below.refl _ _).alloc (Nat.le_refl _) _).alloc (by simp) _⟩

set_option maxHeartbeats 400000 in
theorem after_C (n s m : Int) (h0 : 0 ≤ n) (h1 : n < 1000000000) (g0 : 0 ≤ m) (g1 : m < 1000000000) (w : World)  :
    Calls Try.prog 16 #[.agg #[.int .u64 n, .int .i64 s, .pointer none], .agg #[.int .u64 m, .int .i64 s, .pointer none]] w fun e w' => e = .returned (.bool (decide (m < n))) ∧ Below w.heap.size w w' := by
  have e1 := and_mono2 n m h0 (by omega) g0 (by omega)
  have e2 := and_mono n h0 (by omega)
  have e3 := and_mono m g0 (by omega)
  have e4 := and_mask n h0 (by omega)
  have e5 := and_mask m g0 (by omega)
  go_enter Try.func16, Try.ntmps16
  go_wp2
  go_ret
  exact ⟨rfl, ((Below.refl _ _).alloc (Nat.le_refl _) _).alloc (by simp) _⟩

set_option maxHeartbeats 400000 in
theorem before_A (n s m t : Int) (h0 : 0 ≤ n) (h1 : n < 1000000000) (g0 : 0 ≤ m) (g1 : m < 1000000000) (w : World) (_hc : s < t) :
    Calls Try.prog 17 #[.agg #[.int .u64 n, .int .i64 s, .pointer none], .agg #[.int .u64 m, .int .i64 t, .pointer none]] w fun e w' => e = .returned (.bool true) ∧ Below w.heap.size w w' := by
  have e1 := and_mono2 n m h0 (by omega) g0 (by omega)
  have e2 := and_mono n h0 (by omega)
  have e3 := and_mono m g0 (by omega)
  have e4 := and_mask n h0 (by omega)
  have e5 := and_mask m g0 (by omega)
  go_enter Try.func17, Try.ntmps17
  go_wp2
  go_ret
  exact ⟨rfl, ((Below.refl _ _).alloc (Nat.le_refl _) _).alloc (by simp) _⟩

set_option maxHeartbeats 400000 in
theorem before_B (n s m t : Int) (h0 : 0 ≤ n) (h1 : n < 1000000000) (g0 : 0 ≤ m) (g1 : m < 1000000000) (w : World) (_hc : t < s) :
    Calls Try.prog 17 #[.agg #[.int .u64 n, .int .i64 s, .pointer none], .agg #[.int .u64 m, .int .i64 t, .pointer none]] w fun e w' => e = .returned (.bool (decide (s < t))) ∧ Below w.heap.size w w' := by
  have e1 := and_mono2 n m h0 (by omega) g0 (by omega)
  have e2 := and_mono n h0 (by omega)
  have e3 := and_mono m g0 (by omega)
  have e4 := and_mask n h0 (by omega)
  have e5 := and_mask m g0 (by omega)
  go_enter Try.func17, Try.ntmps17
  go_wp2
  go_ret
  exact ⟨rfl, ((Below.refl _ _).alloc (Nat.le_refl _) _).alloc (by simp) _⟩

set_option maxHeartbeats 400000 in
theorem before_C (n s m : Int) (h0 : 0 ≤ n) (h1 : n < 1000000000) (g0 : 0 ≤ m) (g1 : m < 1000000000) (w : World)  :
    Calls Try.prog 17 #[.agg #[.int .u64 n, .int .i64 s, .pointer none], .agg #[.int .u64 m, .int .i64 s, .pointer none]] w fun e w' => e = .returned (.bool (decide (n < m))) ∧ Below w.heap.size w w' := by
  have e1 := and_mono2 n m h0 (by omega) g0 (by omega)
  have e2 := and_mono n h0 (by omega)
  have e3 := and_mono m g0 (by omega)
  have e4 := and_mask n h0 (by omega)
  have e5 := and_mask m g0 (by omega)
  go_enter Try.func17, Try.ntmps17
  go_wp2
  go_ret
  exact ⟨rfl, ((Below.refl _ _).alloc (Nat.le_refl _) _).alloc (by simp) _⟩

set_option maxHeartbeats 400000 in
theorem equal_C (n s m : Int) (h0 : 0 ≤ n) (h1 : n < 1000000000) (g0 : 0 ≤ m) (g1 : m < 1000000000) (w : World)  :
    Calls Try.prog 25 #[.agg #[.int .u64 n, .int .i64 s, .pointer none], .agg #[.int .u64 m, .int .i64 s, .pointer none]] w fun e w' => e = .returned (.bool (n == m)) ∧ Below w.heap.size w w' := by
  have e1 := and_mono2 n m h0 (by omega) g0 (by omega)
  have e2 := and_mono n h0 (by omega)
  have e3 := and_mono m g0 (by omega)
  have e4 := and_mask n h0 (by omega)
  have e5 := and_mask m g0 (by omega)
  go_enter Try.func25, Try.ntmps25
  go_wp2
  go_ret
  exact ⟨rfl, ((Below.refl _ _).alloc (Nat.le_refl _) _).alloc (by simp) _⟩

theorem ret_bool {a b : Bool} (h : a = b) : Ending.returned (.bool a) = .returned (.bool b) := by rw [h]

theorem dm (x : Int) : x / 1000000000 * 1000000000 + x % 1000000000 = x ∧ 0 ≤ x % 1000000000 ∧ x % 1000000000 < 1000000000 := by omega

theorem after_any (x y : Int) (w : World) :
    Calls Try.prog 16 #[tm x, tm y] w fun e w' => e = .returned (.bool (decide (y < x))) ∧ Below w.heap.size w w' := by
  obtain ⟨hx, x0, x1⟩ := dm x
  obtain ⟨hy, y0, y1⟩ := dm y
  rw [tm_eq x _ _ hx x0 x1, tm_eq y _ _ hy y0 y1]
  generalize x % 1000000000 = n at *
  generalize x / 1000000000 = s at *
  generalize y % 1000000000 = m at *
  generalize y / 1000000000 = t at *
  by_cases hA : t < s
  · exact (after_A n s m t x0 x1 y0 y1 w hA).mono fun e w' ⟨he, hw⟩ => ⟨he.trans (ret_bool (by simp; omega)), hw⟩
  · by_cases hB : s < t
    · exact (after_B n s m t x0 x1 y0 y1 w hB).mono fun e w' ⟨he, hw⟩ => ⟨he.trans (ret_bool (by simp; omega)), hw⟩
    · obtain rfl : t = s := by omega
      exact (after_C n t m x0 x1 y0 y1 w).mono fun e w' ⟨he, hw⟩ => ⟨he.trans (ret_bool (by simp; omega)), hw⟩

theorem before_any (x y : Int) (w : World) :
    Calls Try.prog 17 #[tm x, tm y] w fun e w' => e = .returned (.bool (decide (x < y))) ∧ Below w.heap.size w w' := by
  obtain ⟨hx, x0, x1⟩ := dm x
  obtain ⟨hy, y0, y1⟩ := dm y
  rw [tm_eq x _ _ hx x0 x1, tm_eq y _ _ hy y0 y1]
  generalize x % 1000000000 = n at *
  generalize x / 1000000000 = s at *
  generalize y % 1000000000 = m at *
  generalize y / 1000000000 = t at *
  by_cases hA : s < t
  · exact (before_A n s m t x0 x1 y0 y1 w hA).mono fun e w' ⟨he, hw⟩ => ⟨he.trans (ret_bool (by simp; omega)), hw⟩
  · by_cases hB : t < s
    · exact (before_B n s m t x0 x1 y0 y1 w hB).mono fun e w' ⟨he, hw⟩ => ⟨he.trans (ret_bool (by simp; omega)), hw⟩
    · obtain rfl : t = s := by omega
      exact (before_C n t m x0 x1 y0 y1 w).mono fun e w' ⟨he, hw⟩ => ⟨he.trans (ret_bool (by simp; omega)), hw⟩

theorem equal_same (x : Int) (w : World) :
    Calls Try.prog 25 #[tm x, tm x] w fun e w' => e = .returned (.bool true) ∧ Below w.heap.size w w' := by
  obtain ⟨hx, x0, x1⟩ := dm x
  rw [tm_eq x _ _ hx x0 x1]
  exact (equal_C _ _ _ x0 x1 x0 x1 w).mono fun e w' ⟨he, hw⟩ => ⟨he.trans (ret_bool (by simp)), hw⟩
end Go.Proofs.Qxb6612426a.Tm
