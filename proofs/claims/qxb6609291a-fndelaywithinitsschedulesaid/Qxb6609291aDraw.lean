/-
  The plain words for math/rand/v2's PCG and for Int64N's draw.
-/
import Derived.Test.Qxb6609291aPeriod
import Derived.Laws.BitsAllLaws
import Derived.WalkKit
namespace Go.Proofs.Qxb6609291a.Pcg
open Go.RowKit

/-- the state's step -/
def nxt (X : Nat) : Nat := (47026247687942121848144207491837523525 * X + 117397592171526113268558934119004209487) % 340282366920938463463374607431768211456
/-- the state after k steps -/
def st (X : Nat) : Nat → Nat
  | 0 => X
  | k + 1 => nxt (st X k)
def hiOf (X : Nat) : Int := ((X / 18446744073709551616 : Nat) : Int)
def loOf (X : Nat) : Int := ((X % 18446744073709551616 : Nat) : Int)

/-- DXSM: what the generator hands out at a state -/
def outOf (hi lo : Int) : Int :=
  IntKind.u64.wrap (bits .xor .u64 (IntKind.u64.wrap (bits .xor .u64 hi (hi / 4294967296) * 15750249268501108917)) (IntKind.u64.wrap (bits .xor .u64 hi (hi / 4294967296) * 15750249268501108917) / 281474976710656) * bits .or .u64 lo 1)
def out (X : Nat) : Int := outOf (hiOf X) (loOf X)

theorem out_word (X : Nat) : 0 ≤ out X ∧ out X < 18446744073709551616 := by
  unfold out outOf
  rw [IntKind.wrap_u64 (_ * bits .or .u64 _ _)]
  omega

theorem nxt_lt (X : Nat) : nxt X < 340282366920938463463374607431768211456 := Nat.mod_lt _ (by omega)

theorem it_succ (a c k x : Nat) : it a c (k + 1) x = a * it a c k x + c := by
  rw [it_add]; rfl

theorem st_it (X k : Nat) : st X k % 340282366920938463463374607431768211456 = it (4 * 11756561921985530462036051872959380881 + 1) (2 * 58698796085763056634279467059502104743 + 1) k X % 340282366920938463463374607431768211456 := by
  induction k with
  | zero => rfl
  | succ k ih =>
    rw [it_succ, st, nxt, Nat.mod_mod, Nat.add_mod, Nat.mul_mod, ih, ← Nat.mul_mod, ← Nat.add_mod]

/-- every state is come to from every state, in at least one step -/
theorem reach_st (X T : Nat) (hT : T < 340282366920938463463374607431768211456) : ∃ k, st X (k + 1) = T := by
  obtain ⟨k, hk⟩ := reach 11756561921985530462036051872959380881 58698796085763056634279467059502104743 128 ((4 * 11756561921985530462036051872959380881 + 1) * X + (2 * 58698796085763056634279467059502104743 + 1)) T
  refine ⟨k, ?_⟩
  have h1 := st_it X (k + 1)
  have h2 : st X (k + 1) < 340282366920938463463374607431768211456 := nxt_lt _
  rw [Nat.mod_eq_of_lt h2] at h1
  rw [h1]
  have h3 : T % 340282366920938463463374607431768211456 = T := Nat.mod_eq_of_lt hT
  rw [← h3]
  exact hk

/-- the threshold under which a draw is thrown away -/
def thr (n : Int) : Int := (18446744073709551616 - n) % n
/-- the low word of the product: is the draw thrown away? -/
def rej (n : Int) (X : Nat) : Prop := out X * n % 18446744073709551616 < thr n

theorem thr_lt (n : Int) (h : 0 < n) : 0 ≤ thr n ∧ thr n < n := ⟨Int.emod_nonneg _ (by omega), Int.emod_lt_of_pos _ h⟩

theorem out_top : out 152843920311092531290264562735106752512 = 18446744073709551615 := by decide +kernel

/-- a state whose draw no n throws away is come to -/
theorem acc_ex (n : Int) (h0 : 0 < n) (h1 : n < 9223372036854775808) (X : Nat) : ∃ k, ¬ rej n (st X (k + 1)) := by
  obtain ⟨k, hk⟩ := reach_st X 152843920311092531290264562735106752512 (by omega)
  refine ⟨k, ?_⟩
  rw [hk]
  unfold rej
  rw [out_top]
  have := thr_lt n h0
  have e : (18446744073709551615 * n) % 18446744073709551616 = 18446744073709551616 - n := by omega
  rw [e]
  omega

/-- what uint64n draws from the state X, and the state that it leaves -/
def Drawn (n : Int) (X : Nat) (v : Int) (X' : Nat) : Prop :=
  (bits .and .u64 n (n - 1) = 0 ∧ v = bits .and .u64 (out (nxt X)) (n - 1) ∧ X' = nxt X) ∨
  (bits .and .u64 n (n - 1) ≠ 0 ∧ ∃ k, (∀ j, j < k → rej n (st X (j + 1))) ∧ ¬ rej n (st X (k + 1)) ∧ v = out (st X (k + 1)) * n / 18446744073709551616 ∧ X' = st X (k + 1))

theorem Drawn.unique {n : Int} {X : Nat} {v v2 : Int} {X' X2 : Nat} (h : Drawn n X v X') (h2 : Drawn n X v2 X2) : v = v2 := by
  rcases h with ⟨a, b, _⟩ | ⟨a, k, c, d, e, _⟩ <;> rcases h2 with ⟨a2, b2, _⟩ | ⟨a2, k2, c2, d2, e2, _⟩
  · rw [b, b2]
  · exact absurd a a2
  · exact absurd a2 a
  · have : k = k2 := by
      rcases Nat.lt_trichotomy k k2 with h | h | h
      · exact absurd (c2 k h) d
      · exact h
      · exact absurd (c k2 h) d2
    subst this
    rw [e, e2]

theorem Drawn.range {n : Int} {X : Nat} {v : Int} {X' : Nat} (h0 : 0 < n) (h1 : n < 9223372036854775808) (h : Drawn n X v X') : 0 ≤ v ∧ v < n := by
  rcases h with ⟨_, b, _⟩ | ⟨_, k, _, _, e, _⟩
  · have ho := out_word (nxt X)
    rw [u64_and _ _ ho.1 ho.2 (by omega) (by omega)] at b
    have hle : (out (nxt X)).toNat &&& (n - 1).toNat ≤ (n - 1).toNat := Nat.and_le_right
    omega
  · have ho := out_word (st X (k + 1))
    rw [e]
    generalize out (st X (k + 1)) = u at *
    constructor
    · exact Int.ediv_nonneg (Int.mul_nonneg ho.1 (by omega)) (by omega)
    · refine Int.ediv_lt_of_lt_mul (by omega) ?_
      rw [Int.mul_comm n]
      exact Int.mul_lt_mul_of_pos_right ho.2 h0
end Go.Proofs.Qxb6609291a.Pcg
