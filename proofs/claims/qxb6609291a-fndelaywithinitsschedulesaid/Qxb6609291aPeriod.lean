/-
  The plain law under rand's rejection loop: the affine step with a multiplier that is 1 mod 4 and an odd increment comes through every residue mod 2^m (Hull and Dobell).
-/
namespace Go.Proofs.Qxb6609291a.Pcg

/-- the affine step, not reduced -/
def it (a c : Nat) : Nat → Nat → Nat
  | 0, x => x
  | k + 1, x => it a c k (a * x + c)

theorem it_add (a c j k x : Nat) : it a c (j + k) x = it a c k (it a c j x) := by
  induction j generalizing x with
  | zero => simp [it]
  | succ j ih => rw [Nat.add_right_comm]; simp [it, ih]

theorem alg1 (p u v x : Nat) : (1 + 4 * (p * u)) * ((1 + 4 * (p * u)) * x + p * (2 * v + 1)) + p * (2 * v + 1) = (1 + 4 * ((p + p) * (u + p * u * (2 * u)))) * x + (p + p) * (2 * (p * u * (2 * v + 1) + v) + 1) := by grind
theorem alg2 (p u v z : Nat) : (1 + 4 * (p * u)) * z + p * (2 * v + 1) = z + p + 2 * p * (2 * (u * z) + v) := by grind

/-- 2^m steps at once: x goes to (1 + 4*2^m*u) * x + 2^m*(2*v+1) -/
theorem it_pow (a0 c0 m : Nat) : ∃ u v, ∀ x, it (4 * a0 + 1) (2 * c0 + 1) (2 ^ m) x = (1 + 4 * (2 ^ m * u)) * x + 2 ^ m * (2 * v + 1) := by
  induction m with
  | zero => exact ⟨a0, c0, fun x => by simp [it, Nat.add_comm]⟩
  | succ m ih =>
    obtain ⟨u, v, h⟩ := ih
    refine ⟨u + 2 ^ m * u * (2 * u), 2 ^ m * u * (2 * v + 1) + v, fun x => ?_⟩
    have e : 2 ^ (m + 1) = 2 ^ m + 2 ^ m := by rw [Nat.pow_succ]; omega
    rw [e, it_add, h, h]
    exact alg1 _ _ _ _

theorem reach (a0 c0 m : Nat) (x y : Nat) : ∃ k, it (4 * a0 + 1) (2 * c0 + 1) k x % 2 ^ m = y % 2 ^ m := by
  induction m with
  | zero => exact ⟨0, by simp [Nat.mod_one]⟩
  | succ m ih =>
    obtain ⟨k, hk⟩ := ih
    obtain ⟨u, v, h⟩ := it_pow a0 c0 m
    have e : 2 ^ (m + 1) = 2 * 2 ^ m := by rw [Nat.pow_succ]; omega
    generalize hz : it (4 * a0 + 1) (2 * c0 + 1) k x = z at hk
    by_cases hq : z % 2 ^ (m + 1) = y % 2 ^ (m + 1)
    · exact ⟨k, by rw [hz]; exact hq⟩
    · refine ⟨k + 2 ^ m, ?_⟩
      rw [it_add, hz, h]
      have hp : 0 < 2 ^ m := Nat.pow_pos (by omega)
      have e1 : (1 + 4 * (2 ^ m * u)) * z + 2 ^ m * (2 * v + 1) = z + 2 ^ m + 2 ^ (m + 1) * (2 * (u * z) + v) := by
        rw [e]; exact alg2 _ _ _ _
      rw [e1, Nat.add_mul_mod_self_left]
      rw [e] at hq ⊢
      generalize 2 ^ m = p at *
      have hz1 := Nat.div_add_mod z p
      have hy1 := Nat.div_add_mod y p
      have r1 : z % p < p := Nat.mod_lt _ hp
      have a1 : ∀ t : Nat, t % (2 * p) = t % p + p * (t / p % 2) := fun t => by rw [Nat.mul_comm 2 p, Nat.mod_mul]
      rw [a1, a1 y] at hq
      rw [a1, a1 y, Nat.add_mod_right, Nat.add_div_right _ hp]
      rw [hk] at hq ⊢
      have b1 : z / p % 2 = 0 ∨ z / p % 2 = 1 := by omega
      have b2 : y / p % 2 = 0 ∨ y / p % 2 = 1 := by omega
      have b3 : (z / p).succ % 2 = (z / p % 2 + 1) % 2 := by omega
      rw [b3]
      rcases b1 with b1 | b1 <;> rcases b2 with b2 | b2 <;> simp [b1, b2] at hq ⊢
end Go.Proofs.Qxb6609291a.Pcg
