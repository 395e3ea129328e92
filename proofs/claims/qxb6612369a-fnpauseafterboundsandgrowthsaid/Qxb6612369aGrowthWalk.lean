/-
  FnPauseAfterBoundsAndGrowth (8): the walk: true at every input.
-/
import Derived.Test.Qxb6612369aPause
namespace Go.Proofs.Qxb6612369a.Pz
open Go.RowKit

theorem after_ge (a r : Int) : r ≤ after a r ∧ 100000000 ≤ after a r := by
  have := base_le a
  unfold after; split <;> omega
theorem after_le (a r : Int) (h : r ≤ 5000000000) : after a r ≤ 5000000000 := by
  have := base_le a
  unfold after; split <;> omega
theorem after_eq (a r : Int) (h : ¬ r ≤ 5000000000) : after a r = r := by
  have := base_le a
  unfold after; split <;> omega
theorem base_mono (a b : Int) (h : a ≤ b) : base a ≤ base b := by
  unfold base; repeat' split
  all_goals omega
theorem after_mono (a b r : Int) (h : a ≤ b) : after a r ≤ after b r := by
  have := base_mono a b h
  unfold after; split <;> split <;> omega
theorem after_dbl (a r : Int) (h0 : 0 ≤ a) (h5 : a < 5) (h : r ≤ 100000000) : after (a + 1) r = 2 * after a r := by
  have h6 : a = 0 ∨ a = 1 ∨ a = 2 ∨ a = 3 ∨ a = 4 := by omega
  have := base_le a
  have e : ∀ x, after x r = base x := fun x => by have := base_le x; unfold after; split <;> omega
  rw [e, e]
  rcases h6 with rfl | rfl | rfl | rfl | rfl <;> simp [base]

set_option maxHeartbeats 1600000 in
/-- What the answer asks for lies within the cap. -/
theorem growth_within (a b r : Int) (ha : a ≤ 9223372036854775807) (hb : b ≤ 9223372036854775807) (w : World) (h1 : r ≤ 5000000000) :
    Calls Try.prog 8 #[.int .i64 a, .int .i64 b, .int .i64 r] w fun e w' => e = .returned (.bool true) ∧ w' = w := by
  have g1 := after_ge a r
  have g2 := after_le a r h1
  by_cases h2 : a ≤ b
  · have g3 := after_mono a b r h2
    by_cases h3 : 0 ≤ a
    · by_cases h4 : a < 5
      · by_cases h5 : r ≤ 100000000
        · have g4 : (after (a + 1) r == 2 * after a r) = true := by rw [after_dbl a r h3 h4 h5]; simp
          go_enter Try.func8, Try.ntmps8
          go_wp2_with (go_at_call 19; refine (zzPauseAfter_any _ _ (by omega) _).mono ?_; rintro e w' ⟨rfl, rfl⟩)
          go_ret
          exact ⟨rfl, rfl⟩
        · go_enter Try.func8, Try.ntmps8
          go_wp2_with (go_at_call 19; refine (zzPauseAfter_any _ _ (by omega) _).mono ?_; rintro e w' ⟨rfl, rfl⟩)
          go_ret
          exact ⟨rfl, rfl⟩
      · go_enter Try.func8, Try.ntmps8
        go_wp2_with (go_at_call 19; refine (zzPauseAfter_any _ _ (by omega) _).mono ?_; rintro e w' ⟨rfl, rfl⟩)
        go_ret
        exact ⟨rfl, rfl⟩
    · go_enter Try.func8, Try.ntmps8
      go_wp2_with (go_at_call 19; refine (zzPauseAfter_any _ _ (by omega) _).mono ?_; rintro e w' ⟨rfl, rfl⟩)
      go_ret
      exact ⟨rfl, rfl⟩
  · by_cases h3 : 0 ≤ a
    · by_cases h4 : a < 5
      · by_cases h5 : r ≤ 100000000
        · have g4 : (after (a + 1) r == 2 * after a r) = true := by rw [after_dbl a r h3 h4 h5]; simp
          go_enter Try.func8, Try.ntmps8
          go_wp2_with (go_at_call 19; refine (zzPauseAfter_any _ _ (by omega) _).mono ?_; rintro e w' ⟨rfl, rfl⟩)
          go_ret
          exact ⟨rfl, rfl⟩
        · go_enter Try.func8, Try.ntmps8
          go_wp2_with (go_at_call 19; refine (zzPauseAfter_any _ _ (by omega) _).mono ?_; rintro e w' ⟨rfl, rfl⟩)
          go_ret
          exact ⟨rfl, rfl⟩
      · go_enter Try.func8, Try.ntmps8
        go_wp2_with (go_at_call 19; refine (zzPauseAfter_any _ _ (by omega) _).mono ?_; rintro e w' ⟨rfl, rfl⟩)
        go_ret
        exact ⟨rfl, rfl⟩
    · go_enter Try.func8, Try.ntmps8
      go_wp2_with (go_at_call 19; refine (zzPauseAfter_any _ _ (by omega) _).mono ?_; rintro e w' ⟨rfl, rfl⟩)
      go_ret
      exact ⟨rfl, rfl⟩

set_option maxHeartbeats 1600000 in
/-- What the answer asks for lies over the cap. -/
theorem growth_over (a b r : Int) (ha : a ≤ 9223372036854775807) (hb : b ≤ 9223372036854775807) (w : World) (h1 : ¬ r ≤ 5000000000) :
    Calls Try.prog 8 #[.int .i64 a, .int .i64 b, .int .i64 r] w fun e w' => e = .returned (.bool true) ∧ w' = w := by
  have g1 := after_ge a r
  have g2 : (after a r == r) = true := by rw [after_eq a r h1]; simp
  by_cases h2 : a ≤ b
  · have g3 := after_mono a b r h2
    by_cases h3 : 0 ≤ a
    · by_cases h4 : a < 5
      · have h5 : ¬ r ≤ 100000000 := by omega
        go_enter Try.func8, Try.ntmps8
        go_wp2_with (go_at_call 19; refine (zzPauseAfter_any _ _ (by omega) _).mono ?_; rintro e w' ⟨rfl, rfl⟩)
        go_ret
        exact ⟨rfl, rfl⟩
      · go_enter Try.func8, Try.ntmps8
        go_wp2_with (go_at_call 19; refine (zzPauseAfter_any _ _ (by omega) _).mono ?_; rintro e w' ⟨rfl, rfl⟩)
        go_ret
        exact ⟨rfl, rfl⟩
    · go_enter Try.func8, Try.ntmps8
      go_wp2_with (go_at_call 19; refine (zzPauseAfter_any _ _ (by omega) _).mono ?_; rintro e w' ⟨rfl, rfl⟩)
      go_ret
      exact ⟨rfl, rfl⟩
  · by_cases h3 : 0 ≤ a
    · by_cases h4 : a < 5
      · have h5 : ¬ r ≤ 100000000 := by omega
        go_enter Try.func8, Try.ntmps8
        go_wp2_with (go_at_call 19; refine (zzPauseAfter_any _ _ (by omega) _).mono ?_; rintro e w' ⟨rfl, rfl⟩)
        go_ret
        exact ⟨rfl, rfl⟩
      · go_enter Try.func8, Try.ntmps8
        go_wp2_with (go_at_call 19; refine (zzPauseAfter_any _ _ (by omega) _).mono ?_; rintro e w' ⟨rfl, rfl⟩)
        go_ret
        exact ⟨rfl, rfl⟩
    · go_enter Try.func8, Try.ntmps8
      go_wp2_with (go_at_call 19; refine (zzPauseAfter_any _ _ (by omega) _).mono ?_; rintro e w' ⟨rfl, rfl⟩)
      go_ret
      exact ⟨rfl, rfl⟩

theorem growth_any (a b r : Int) (ha : a ≤ 9223372036854775807) (hb : b ≤ 9223372036854775807) (w : World) :
    Calls Try.prog 8 #[.int .i64 a, .int .i64 b, .int .i64 r] w fun e w' => e = .returned (.bool true) ∧ w' = w := by
  by_cases h1 : r ≤ 5000000000
  · exact growth_within a b r ha hb w h1
  · exact growth_over a b r ha hb w h1
end Go.Proofs.Qxb6612369a.Pz
