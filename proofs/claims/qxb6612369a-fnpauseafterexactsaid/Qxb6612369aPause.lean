/-
  The walks that both laws share: pause (33), pauseAfter (27), ZZpauseAfter (19), each by a contract at every input.
-/
import Derived.Test.Qxb6612369aProg
import Derived.WalkKit
namespace Go.Proofs.Qxb6612369a.Pz
open Go.RowKit

theorem ret_int {k : IntKind} {a b : Int} (h : a = b) : Ending.returned (.int k a) = .returned (.int k b) := by rw [h]

/-- The growing pause: 100ms doubled per earlier ask, at most 5s. -/
def base (a : Int) : Int :=
  if a ≤ 0 then 100000000 else if a = 1 then 200000000 else if a = 2 then 400000000 else if a = 3 then 800000000
  else if a = 4 then 1600000000 else if a = 5 then 3200000000 else 5000000000

/-- The doubled pause, not capped. -/
def dbl : Nat → Int
  | 0 => 100000000
  | k + 1 => 2 * dbl k

theorem base_of (a : Int) (k : Nat) (P : Int) (hk : k ≤ a.toNat) (h6 : k ≤ 6) (e : P = dbl k) (h : a.toNat ≤ k ∨ 5000000000 ≤ P) :
    (if P < 5000000000 then P else 5000000000) = base a := by
  subst e
  have h5 : k = 0 ∨ k = 1 ∨ k = 2 ∨ k = 3 ∨ k = 4 ∨ k = 5 ∨ k = 6 := by omega
  rcases h5 with rfl | rfl | rfl | rfl | rfl | rfl | rfl <;> simp [dbl] at h ⊢ <;> unfold base <;> (repeat' split) <;> omega

theorem dbl_le (k : Nat) (h : k ≤ 6) : 100000000 ≤ dbl k ∧ dbl k ≤ 6400000000 := by
  have h5 : k = 0 ∨ k = 1 ∨ k = 2 ∨ k = 3 ∨ k = 4 ∨ k = 5 ∨ k = 6 := by omega
  rcases h5 with rfl | rfl | rfl | rfl | rfl | rfl | rfl <;> simp [dbl]

theorem dbl_six (k : Nat) (h6 : k ≤ 6) (h : dbl k < 5000000000) : k + 1 ≤ 6 := by
  have h5 : k = 0 ∨ k = 1 ∨ k = 2 ∨ k = 3 ∨ k = 4 ∨ k = 5 ∨ k = 6 := by omega
  rcases h5 with rfl | rfl | rfl | rfl | rfl | rfl | rfl <;> simp [dbl] at h ⊢

theorem base_le (a : Int) : 100000000 ≤ base a ∧ base a ≤ 5000000000 := by
  unfold base; repeat' split
  all_goals omega

set_option maxHeartbeats 400000 in
theorem pause_any (a : Int) (_ha : a ≤ 9223372036854775807) (w : World) :
    Calls Try.prog 33 #[.int .i64 a] w fun e w' => e = .returned (.int .i64 (base a)) ∧ w' = w := by
  go_enter Try.func33, Try.ntmps33
  go_wp2
  go_loop [3, 5] (fun p i => ∃ k : Nat, k ≤ a.toNat ∧ k ≤ 6 ∧ i = .int .i64 k ∧ p = .int .i64 (dbl k)) (fun _ i => a.toNat - (intOf i).toNat)
  case atStart => exact ⟨0, Nat.zero_le _, Nat.zero_le _, rfl, rfl⟩
  case round =>
    obtain ⟨k, hk, h6, rfl, rfl⟩ := hrel
    have hb := dbl_le k h6
    have hs := dbl_six k h6
    have H : Hid (a.toNat ≤ k ∨ 5000000000 ≤ dbl k → (if dbl k < 5000000000 then dbl k else 5000000000) = base a) := base_of a k (dbl k) hk h6 rfl
    have HS : Hid (dbl (k + 1) = 2 * dbl k) := rfl
    generalize dbl k = P at *
    go_wp2
    case roundEnd =>
      go_round
      case rel => exact ⟨k + 1, by omega, hs (by omega), by go_num, by rw [HS.out]; go_num⟩
      case measure => simp [intOf]; omega
    all_goals
      go_ret
      refine ⟨ret_int ?_, rfl⟩
      have hd := H.out (by omega)
      rw [← hd]
      split <;> omega

/-- pauseAfter: the larger of the growing pause and what the answer asks for. -/
def after (a r : Int) : Int := if base a < r then r else base a

set_option maxHeartbeats 400000 in
theorem pauseAfter_any (a r : Int) (ha : a ≤ 9223372036854775807) (w : World) :
    Calls Try.prog 27 #[.int .i64 a, .int .i64 r] w fun e w' => e = .returned (.int .i64 (after a r)) ∧ w' = w := by
  go_enter Try.func27, Try.ntmps27
  go_wp2_with (go_at_call 33; refine (pause_any _ ha _).mono ?_; rintro e w' ⟨rfl, rfl⟩)
  all_goals
    go_ret
    refine ⟨ret_int ?_, rfl⟩
    unfold after
    split <;> omega

set_option maxHeartbeats 400000 in
theorem zzPauseAfter_any (a r : Int) (ha : a ≤ 9223372036854775807) (w : World) :
    Calls Try.prog 19 #[.int .i64 a, .int .i64 r] w fun e w' => e = .returned (.int .i64 (after a r)) ∧ w' = w := by
  go_enter Try.func19, Try.ntmps19
  go_wp2_with (go_at_call 27; refine (pauseAfter_any _ _ ha _).mono ?_; rintro e w' ⟨rfl, rfl⟩)
  go_ret
  exact ⟨rfl, rfl⟩

set_option maxHeartbeats 400000 in
theorem zzPauseBase_any (a : Int) (w : World) :
    Calls Try.prog 20 #[.int .i64 a] w fun e w' => e = .returned (.int .i64 (base a)) ∧ w' = w := by
  go_enter Try.func20, Try.ntmps20
  go_wp2
  all_goals
    go_ret
    refine ⟨ret_int ?_, rfl⟩
    simp_all [base]
end Go.Proofs.Qxb6612369a.Pz
