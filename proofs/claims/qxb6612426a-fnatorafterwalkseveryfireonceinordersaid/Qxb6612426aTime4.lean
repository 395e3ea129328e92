/-
  zzAt, zzNS.
-/
import Derived.Test.Qxb6612426aTime3
namespace Go.Proofs.Qxb6612426a.Tm
open Go.RowKit

/-- zzAt: ns nanoseconds after the zero time. -/
theorem zzAt_any (d : Int) (g0 : -9223372036854775808 ≤ d) (g1 : d ≤ 9223372036854775807) (w : World) :
    Calls Try.prog 12 #[.int .i64 d] w fun e w' => e = .returned (tm d) ∧ Below w.heap.size w w' := by
  obtain ⟨hx, x0, x1⟩ := dm d
  rw [tm_eq d _ _ hx x0 x1]
  have hc := add_zero _ _ d x0 x1 hx g0 g1
  generalize d % 1000000000 = n at *
  generalize d / 1000000000 = s at *
  have H : Hid (∀ w : World, Calls Try.prog 14 #[.agg #[.int .u64 0, .int .i64 0, .pointer none], .int .i64 d] w fun e w' => e = .returned (.agg #[.int .u64 n, .int .i64 s, .pointer none]) ∧ Below w.heap.size w w') := hc
  clear hc hx
  go_enter Try.func12, Try.ntmps12
  go_wp2_with (go_at_call 14; refine (H.out _).mono ?_; rintro e w1 ⟨rfl, hb1⟩; obtain ⟨hc1, hf1⟩ := bcell hb1; have hz : w.heap.size < w1.heap.size := by have := hb1.size; simp at this; omega)
  have h1 : Below w.heap.size w (w.alloc (Obj.cells #[Value.int IntKind.u64 0, Value.int IntKind.i64 0, Value.pointer none] 30)) := (Below.refl _ _).alloc (Nat.le_refl _) _
  exact bodyPost_ret (v := .agg #[.int .u64 n, .int .i64 s, .pointer none]) (by simp [results, Try.results12, go_sem, hc1]) rfl
    ⟨rfl, (((h1.trans (hb1.mono h1.size)).setCell (Nat.le_refl _) _).setCell (Nat.le_refl _) _).setCell (Nat.le_refl _) _⟩

/-- zzNS: the nanoseconds since the zero time. -/
theorem zzNS_any (x : Int) (x0 : -9223372036854775808 ≤ x) (x1 : x ≤ 9223372036854775807) (w : World) :
    Calls Try.prog 13 #[tm x] w fun e w' => e = .returned (.int .i64 x) ∧ Below w.heap.size w w' := by
  obtain ⟨hx, n0, n1⟩ := dm x
  rw [tm_eq x _ _ hx n0 n1]
  have hc := sub_zero x _ _ n0 n1 hx x0 x1
  generalize x % 1000000000 = n at *
  generalize x / 1000000000 = s at *
  have H : Hid (∀ w : World, Calls Try.prog 18 #[.agg #[.int .u64 n, .int .i64 s, .pointer none], .agg #[.int .u64 0, .int .i64 0, .pointer none]] w fun e w' => e = .returned (.int .i64 x) ∧ Below w.heap.size w w') := hc
  clear hc hx
  go_enter Try.func13, Try.ntmps13
  go_wp2_with (go_at_call 18; refine (H.out _).mono ?_; rintro e w1 ⟨rfl, hb1⟩)
  have h1 : Below w.heap.size w (w.alloc (Obj.cells #[Value.int IntKind.u64 n, Value.int IntKind.i64 s, Value.pointer none] 30)) := (Below.refl _ _).alloc (Nat.le_refl _) _
  go_ret
  exact ⟨rfl, h1.trans (hb1.mono h1.size)⟩
end Go.Proofs.Qxb6612426a.Tm
