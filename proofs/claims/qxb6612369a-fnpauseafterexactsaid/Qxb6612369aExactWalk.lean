/-
  FnPauseAfterExact (7): the walk: true at every input.
-/
import Derived.Test.Qxb6612369aPause
namespace Go.Proofs.Qxb6612369a.Pz
open Go.RowKit

set_option maxHeartbeats 400000 in
theorem exact_any (a r : Int) (ha : a ≤ 9223372036854775807) (w : World) :
    Calls Try.prog 7 #[.int .i64 a, .int .i64 r] w fun e w' => e = .returned (.bool true) ∧ w' = w := by
  by_cases h : base a < r
  · have ea : after a r = r := by simp [after, h]
    go_enter Try.func7, Try.ntmps7
    go_wp2_with (first | (go_at_call 19; refine (zzPauseAfter_any _ _ ha _).mono ?_; rintro e w' ⟨rfl, rfl⟩) | (go_at_call 20; refine (zzPauseBase_any _ _).mono ?_; rintro e w' ⟨rfl, rfl⟩))
    go_ret
    exact ⟨rfl, rfl⟩
  · have ea : after a r = base a := by simp [after, h]
    go_enter Try.func7, Try.ntmps7
    go_wp2_with (first | (go_at_call 19; refine (zzPauseAfter_any _ _ ha _).mono ?_; rintro e w' ⟨rfl, rfl⟩) | (go_at_call 20; refine (zzPauseBase_any _ _).mono ?_; rintro e w' ⟨rfl, rfl⟩))
    go_ret
    exact ⟨rfl, rfl⟩
end Go.Proofs.Qxb6612369a.Pz
