/-
  (time.Time).Sub against the zero time; zzAt, zzNS.
-/
import Derived.Test.Qxb6612426aTime2
import Derived.Deep.RegionWith
namespace Go.Proofs.Qxb6612426a.Tm
open Go.RowKit

theorem bcell {W w1 : World} (hb : Below W.heap.size W w1) : (∀ b o, b < W.heap.size → w1.cell? ⟨b, o, none⟩ = W.cell? ⟨b, o, none⟩) ∧ (∀ b o, b < W.heap.size → w1.frozen? ⟨b, o, none⟩ = W.frozen? ⟨b, o, none⟩) :=
  ⟨fun b o h => hb.cell (p := ⟨b, o, none⟩) h, fun b o h => hb.frozen (p := ⟨b, o, none⟩) h⟩

/-- two boxes, a draw, two callees that make memory -/
theorem below2 {w w1 w2 : World} {o1 o2 : Obj} (hb1 : Below ((w.alloc o1).alloc o2).drew.heap.size ((w.alloc o1).alloc o2).drew w1) (hb2 : Below w1.heap.size w1 w2) : Below w.heap.size w w2 := by
  have h1 : Below w.heap.size w ((w.alloc o1).alloc o2).drew := (((Below.refl _ _).alloc (Nat.le_refl _) _).alloc (by simp) _).drew
  have h2 := h1.trans (hb1.mono h1.size)
  exact h2.trans (hb2.mono h2.size)

theorem equal_raw (n s : Int) (h0 : 0 ≤ n) (h1 : n < 1000000000) (w : World) :
    Calls Try.prog 25 #[.agg #[.int .u64 n, .int .i64 s, .pointer none], .agg #[.int .u64 n, .int .i64 s, .pointer none]] w fun e w' => e = .returned (.bool true) ∧ Below w.heap.size w w' :=
  (equal_C n s n h0 h1 h0 h1 w).mono fun e w' ⟨he, hw⟩ => ⟨he.trans (ret_bool (by simp)), hw⟩

theorem add_zero (n s d : Int) (h0 : 0 ≤ n) (h1 : n < 1000000000) (hx : s * 1000000000 + n = d) (g0 : -9223372036854775808 ≤ d) (g1 : d ≤ 9223372036854775807) (w : World) :
    Calls Try.prog 14 #[.agg #[.int .u64 0, .int .i64 0, .pointer none], .int .i64 d] w fun e w' => e = .returned (.agg #[.int .u64 n, .int .i64 s, .pointer none]) ∧ Below w.heap.size w w' := by
  have h := add_any 0 d (by omega) (by omega) g0 g1 w
  rw [tm_eq 0 0 0 (by omega) (by omega) (by omega), tm_eq (0 + d) n s (by omega) h0 h1] at h
  exact h

set_option maxHeartbeats 400000 in
theorem sub_zero (x n s : Int) (h0 : 0 ≤ n) (h1 : n < 1000000000) (hx : Hid (s * 1000000000 + n = x)) (x0 : -9223372036854775808 ≤ x) (x1 : x ≤ 9223372036854775807) (w : World) :
    Calls Try.prog 18 #[.agg #[.int .u64 n, .int .i64 s, .pointer none], .agg #[.int .u64 0, .int .i64 0, .pointer none]] w fun e w' => e = .returned (.int .i64 x) ∧ Below w.heap.size w w' := by
  have s0 : -10000000000 ≤ s := by have := hx.out; omega
  have s1 : s ≤ 10000000000 := by have := hx.out; omega
  have hw : wrap64 (wrap64 (s * 1000000000) + n) = x := by have := hx.out; unfold wrap64; omega
  have e1 := and_mono2 n 0 h0 (by omega) (by omega) (by omega)
  have e2 := and_mono n h0 (by omega)
  have e3 := and_mono 0 (by omega) (by omega)
  have e4 := and_mask n h0 (by omega)
  have e5 := and_mask 0 (by omega) (by omega)
  go_enter Try.func18, Try.ntmps18
  go_wp2
  go_region_with (first
    | (go_at_call 14; refine (add_zero n s x h0 h1 hx.out x0 x1 _).mono ?_; rintro e w1 ⟨rfl, hb1⟩; obtain ⟨hc1, hf1⟩ := bcell hb1)
    | (go_at_call 25; refine (equal_raw n s h0 h1 _).mono ?_; rintro e w2 ⟨rfl, hb2⟩))
  all_goals
    go_wp2
    go_ret
    exact ⟨rfl, below2 hb1 hb2⟩

end Go.Proofs.Qxb6612426a.Tm
