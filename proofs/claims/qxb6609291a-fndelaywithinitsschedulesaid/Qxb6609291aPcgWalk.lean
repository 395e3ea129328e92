/-
  math/bits.Mul64 (23), Add64 (47); (*PCG).next (46), (*PCG).Uint64 (45), (*Rand).Uint64 (22).
-/
import Derived.Test.Qxb6609291aProg
import Derived.Test.Qxb6609291aDraw
import Derived.Lib.Mul64
import Derived.Laws.Bits64b
import Derived.Laws.Externs
import Derived.Deep.QuietTactic
import Derived.BigQuiet
namespace Go.Proofs.Qxb6609291a.Pcg
open Go.RowKit

theorem maskN (a : Nat) (ha : a < 18446744073709551616) : bits .and .u64 (a : Int) 4294967295 = ((a % 4294967296 : Nat) : Int) := by
  have h := bits_and_u64_nat a 4294967295 ha (by omega)
  rw [show a &&& 4294967295 = a % 4294967296 from Nat.and_two_pow_sub_one_eq_mod a 32] at h
  exact h
theorem divN (a : Nat) : (a : Int) / 4294967296 = ((a / 4294967296 : Nat) : Int) := by omega
theorem mulN (a b : Nat) : (a : Int) * (b : Int) = ((a * b : Nat) : Int) := (Int.natCast_mul a b).symm
theorem addN (a b : Nat) : (a : Int) + (b : Int) = ((a + b : Nat) : Int) := (Int.natCast_add a b).symm
theorem wrapN (a : Nat) (ha : a < 18446744073709551616) : IntKind.u64.wrap (a : Int) = (a : Int) := by rw [IntKind.wrap_u64]; omega
theorem wrapM (a : Nat) : IntKind.u64.wrap (a : Int) = ((a % 18446744073709551616 : Nat) : Int) := by rw [IntKind.wrap_u64]; omega

set_option maxHeartbeats 1000000 in
theorem mul64_nat (x y : Nat) (hx : x < 18446744073709551616) (hy : y < 18446744073709551616) (w : World) :
    Calls Try.prog 23 #[.int .u64 x, .int .u64 y] w fun e w' => e = .returned (.tuple #[.int .u64 ((x * y / 18446744073709551616 : Nat) : Int), .int .u64 ((x * y % 18446744073709551616 : Nat) : Int)]) ∧ w' = w := by
  obtain ⟨bd, bt, bw, hhi⟩ := Lib.mul64_hi x y hx hy
  have ba := Lib.half_mul_le (a := x / 4294967296) (b := y / 4294967296) (by omega) (by omega)
  have bb := Lib.half_mul_le (a := x / 4294967296) (b := y % 4294967296) (by omega) (by omega)
  have bc := Lib.half_mul_le (a := x % 4294967296) (b := y / 4294967296) (by omega) (by omega)
  have ba' : x / 4294967296 * (y / 4294967296) < 18446744073709551616 := by omega
  have bb' : x / 4294967296 * (y % 4294967296) < 18446744073709551616 := by omega
  have bc' : x % 4294967296 * (y / 4294967296) < 18446744073709551616 := by omega
  have bh1 : x / 4294967296 * (y / 4294967296) + (x / 4294967296 * (y % 4294967296) + x % 4294967296 * (y % 4294967296) / 4294967296) / 4294967296 < 18446744073709551616 := by omega
  have bh : x / 4294967296 * (y / 4294967296) + (x / 4294967296 * (y % 4294967296) + x % 4294967296 * (y % 4294967296) / 4294967296) / 4294967296 + ((x / 4294967296 * (y % 4294967296) + x % 4294967296 * (y % 4294967296) / 4294967296) % 4294967296 + x % 4294967296 * (y / 4294967296)) / 4294967296 < 18446744073709551616 := by omega
  go_enter Try.func23, Try.ntmps23
  go_wp2
  simp only [maskN x hx, maskN y hy, divN, mulN, addN, wrapN _ bd, wrapN _ bb', wrapN _ bt, maskN _ bt, wrapN _ bc', wrapN _ bw, wrapN _ ba', wrapN _ bh1, wrapN _ bh, wrapM (x * y)]
  rw [hhi]
  go_ret2
  exact ⟨rfl, rfl⟩

theorem mul64_any (x y : Int) (hx0 : 0 ≤ x) (hx : x < 18446744073709551616) (hy0 : 0 ≤ y) (hy : y < 18446744073709551616) (w : World) :
    Calls Try.prog 23 #[.int .u64 x, .int .u64 y] w fun e w' => e = .returned (.tuple #[.int .u64 (x * y / 18446744073709551616), .int .u64 (x * y % 18446744073709551616)]) ∧ w' = w := by
  obtain ⟨x, rfl⟩ := Int.eq_ofNat_of_zero_le hx0
  obtain ⟨y, rfl⟩ := Int.eq_ofNat_of_zero_le hy0
  have h := mul64_nat x y (by omega) (by omega) w
  rw [Int.natCast_ediv, Int.natCast_emod, Int.natCast_mul] at h
  exact h

theorem add64 (x y c : Int) (hx : 0 ≤ x) (hx' : x < 18446744073709551616) (hy : 0 ≤ y) (hy' : y < 18446744073709551616) (hc0 : 0 ≤ c) (hc : c ≤ 1) (w : World) : (callFunc 47 #[.int .u64 x, .int .u64 y, .int .u64 c]).run Try.prog w =
    .ok (.value (.tuple #[.int .u64 ((x + y + c) % 18446744073709551616), .int .u64 ((x + y + c) / 18446744073709551616)])) w := by
  obtain ⟨x, rfl⟩ := Int.eq_ofNat_of_zero_le hx
  obtain ⟨y, rfl⟩ := Int.eq_ofNat_of_zero_le hy
  obtain ⟨c, rfl⟩ := Int.eq_ofNat_of_zero_le hc0
  rw [run_callFunc_extern Try.func47 (by kernel_rfl) (by kernel_rfl) (by kernel_rfl) (e := add64Entry) (by kernel_rfl), run_add64 x y c (by omega) (by omega) (by omega) (by omega)]
  simp only [Result.andThen]

theorem hl (X : Nat) (h : X < 340282366920938463463374607431768211456) : 0 ≤ hiOf X ∧ hiOf X < 18446744073709551616 ∧ 0 ≤ loOf X ∧ loOf X < 18446744073709551616 := by
  unfold hiOf loOf; omega

theorem nxt_lo (X : Nat) : (loOf X * 4865540595714422341 % 18446744073709551616 + 1442695040888963407) % 18446744073709551616 = loOf (nxt X) := by
  unfold loOf nxt; omega

theorem modlem (c p q j d : Int) : ((c + (p % 18446744073709551616 + q % 18446744073709551616) % 18446744073709551616) % 18446744073709551616 + j + d) % 18446744073709551616 = (c + p + q + j + d) % 18446744073709551616 := by omega

/-- two words of the step, over Nat -/
theorem nxt_hi_nat (H L : Nat) : nxt (H * 18446744073709551616 + L) / 18446744073709551616 =
    (L * 4865540595714422341 / 18446744073709551616 + H * 4865540595714422341 + L * 2549297995355413924 + 6364136223846793005 + (L * 4865540595714422341 % 18446744073709551616 + 1442695040888963407) / 18446744073709551616) % 18446744073709551616 := by
  unfold nxt
  rw [show (340282366920938463463374607431768211456 : Nat) = 18446744073709551616 * 18446744073709551616 from rfl, Nat.mod_mul_right_div_self]
  have e : 47026247687942121848144207491837523525 * (H * 18446744073709551616 + L) + 117397592171526113268558934119004209487 =
      (L * 4865540595714422341 % 18446744073709551616 + 1442695040888963407) % 18446744073709551616 + 18446744073709551616 * ((L * 4865540595714422341 / 18446744073709551616 + H * 4865540595714422341 + L * 2549297995355413924 + 6364136223846793005 + (L * 4865540595714422341 % 18446744073709551616 + 1442695040888963407) / 18446744073709551616) + 18446744073709551616 * (H * 2549297995355413924)) := by
    have e1 := Nat.div_add_mod (L * 4865540595714422341) 18446744073709551616
    have e2 := Nat.div_add_mod (L * 4865540595714422341 % 18446744073709551616 + 1442695040888963407) 18446744073709551616
    generalize L * 4865540595714422341 / 18446744073709551616 = c1 at *
    generalize L * 4865540595714422341 % 18446744073709551616 = r1 at *
    generalize (r1 + 1442695040888963407) / 18446744073709551616 = c2 at *
    generalize (r1 + 1442695040888963407) % 18446744073709551616 = r2 at *
    omega
  rw [e, Nat.add_mul_div_left _ _ (by omega), Nat.div_eq_of_lt (Nat.mod_lt _ (by omega)), Nat.zero_add, Nat.add_mul_mod_self_left]

theorem nxt_hi (X : Nat) :
    (IntKind.u64.wrap (loOf X * 4865540595714422341 / 18446744073709551616 + IntKind.u64.wrap (IntKind.u64.wrap (hiOf X * 4865540595714422341) + IntKind.u64.wrap (loOf X * 2549297995355413924))) + 6364136223846793005 + (loOf X * 4865540595714422341 % 18446744073709551616 + 1442695040888963407) / 18446744073709551616) % 18446744073709551616 = hiOf (nxt X) := by
  simp only [IntKind.wrap_u64]
  rw [modlem]
  have h := nxt_hi_nat (X / 18446744073709551616) (X % 18446744073709551616)
  rw [Nat.div_add_mod'] at h
  unfold hiOf loOf
  rw [h]
  generalize X / 18446744073709551616 = H
  generalize X % 18446744073709551616 = L
  simp only [Int.natCast_emod, Int.natCast_ediv, Int.natCast_add, Int.natCast_mul]
  rfl

set_option maxHeartbeats 1000000 in
theorem next_any (p X : Nat) (hX : X < 340282366920938463463374607431768211456) (w : World) (h0 : w.cell? ⟨p, 0, none⟩ = some (.int .u64 (hiOf X))) (h1 : w.cell? ⟨p, 1, none⟩ = some (.int .u64 (loOf X))) (f0 : w.frozen? ⟨p, 0, none⟩ = false) (f1 : w.frozen? ⟨p, 1, none⟩ = false) :
    Calls Try.prog 46 #[.pointer (some ⟨p, 0, none⟩)] w fun e w' => e = .returned (.tuple #[.int .u64 (hiOf (nxt X)), .int .u64 (loOf (nxt X))]) ∧ ∃ n, w' = ((w.drewN n).setCell ⟨p, 1, none⟩ (.int .u64 (loOf (nxt X)))).setCell ⟨p, 0, none⟩ (.int .u64 (hiOf (nxt X))) := by
  obtain ⟨a0, a1, b0, b1⟩ := hl X hX
  have hA1 : ∀ w, (callFunc 47 #[.int .u64 (loOf X * 4865540595714422341 % 18446744073709551616), .int .u64 1442695040888963407, .int .u64 0]).run Try.prog w =
      .ok (.value (.tuple #[.int .u64 (loOf (nxt X)), .int .u64 ((loOf X * 4865540595714422341 % 18446744073709551616 + 1442695040888963407) / 18446744073709551616)])) w := fun w => by
    rw [add64 _ _ _ (Int.emod_nonneg _ (by omega)) (Int.emod_lt_of_pos _ (by omega)) (by omega) (by omega) (by omega) (by omega), Int.add_zero, nxt_lo]
  have hA2 : ∀ w, (callFunc 47 #[.int .u64 (IntKind.u64.wrap (loOf X * 4865540595714422341 / 18446744073709551616 + IntKind.u64.wrap (IntKind.u64.wrap (hiOf X * 4865540595714422341) + IntKind.u64.wrap (loOf X * 2549297995355413924)))), .int .u64 6364136223846793005, .int .u64 ((loOf X * 4865540595714422341 % 18446744073709551616 + 1442695040888963407) / 18446744073709551616)]).run Try.prog w =
      .ok (.value (.tuple #[.int .u64 (hiOf (nxt X)), .int .u64 ((IntKind.u64.wrap (loOf X * 4865540595714422341 / 18446744073709551616 + IntKind.u64.wrap (IntKind.u64.wrap (hiOf X * 4865540595714422341) + IntKind.u64.wrap (loOf X * 2549297995355413924))) + 6364136223846793005 + (loOf X * 4865540595714422341 % 18446744073709551616 + 1442695040888963407) / 18446744073709551616) / 18446744073709551616)])) w := fun w => by
    rw [add64 _ _ _ (by rw [IntKind.wrap_u64]; omega) (by rw [IntKind.wrap_u64]; omega) (by omega) (by omega) (by omega) (by omega), nxt_hi]
  go_enter Try.func46, Try.ntmps46
  go_wp2_with (go_at_call 23; refine (mul64_any _ _ b0 b1 (by omega) (by omega) _).mono ?_; rintro e w' ⟨rfl, hw⟩; rw [hw]; clear hw w')
  go_quiet (fail)
  go_wp2_with (first | simp only [hA1] | simp only [hA2])
  go_ret2
  exact ⟨rfl, _, rfl⟩
end Go.Proofs.Qxb6609291a.Pcg
