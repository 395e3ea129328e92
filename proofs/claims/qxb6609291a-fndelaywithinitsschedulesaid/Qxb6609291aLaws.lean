/-
  The two laws' walks: FnDelayWithinItsSchedule (5), FnDelayReadsPrevOnlyWhereDecorrelated (6).
-/
import Derived.Test.Qxb6609291aZZDelay
namespace Go.Proofs.Qxb6609291a.Dl
open Go.RowKit Go.Proofs.Qxb6609291a.Pcg

/-! ### The plain law: where a draw lies -/
theorem drel_prop {j : ByteArray} {b m f v : Int} {X : Nat} {d : Int} (hb : 1 ≤ b) (hm : b ≤ m) (hm' : m ≤ 9223372036854775807) (hj : isP j = true) (h : DRel j b m f v X d) :
    (nm b m (f.toNat - 1) / 2 = 0 → d = nm b m (f.toNat - 1) - nm b m (f.toNat - 1) / 4) ∧
    (nm b m (f.toNat - 1) / 2 ≠ 0 → nm b m (f.toNat - 1) - nm b m (f.toNat - 1) / 4 ≤ d ∧ d - (nm b m (f.toNat - 1) - nm b m (f.toNat - 1) / 4) < nm b m (f.toNat - 1) / 2 ∧ d ≤ 9223372036854775807) := by
  have hn := nm_bounds hb hm (f.toNat - 1)
  rcases h with ⟨_, h⟩ | ⟨h, _⟩ | ⟨h, _⟩
  · generalize nm b m (f.toNat - 1) = n at *
    rcases h with ⟨h1, h2⟩ | ⟨h1, u, X', hd, h2⟩
    · exact ⟨fun _ => h2, fun e => absurd h1 e⟩
    · refine ⟨fun e => absurd e h1, fun _ => ?_⟩
      have := hd.range (by omega) (by omega)
      unfold capP at h2
      split at h2 <;> omega
  · rw [hj] at h; cases h
  · rw [hj] at h; cases h

theorem drel_dec {j : ByteArray} {b m f v : Int} {X : Nat} {d : Int} (hb : 1 ≤ b) (hb' : b < 9223372036854775807) (hm : b ≤ m) (hv : v ≤ 9223372036854775807) (hj : isP j = false) (hk : isD j = true) (h : DRel j b m f v X d) :
    b ≤ d ∧ d ≤ m ∧ (lastOf b f v ≤ 3074457345618258602 → d < 3 * lastOf b f v) := by
  rcases h with ⟨h, _⟩ | ⟨_, _, u, X', hd, h⟩ | ⟨_, h, _⟩
  · rw [hj] at h; cases h
  · have hL : b ≤ lastOf b f v ∧ lastOf b f v ≤ 9223372036854775807 := by unfold lastOf; split <;> (try split) <;> omega
    generalize lastOf b f v = L at *
    have hU : b < upOf L ∧ upOf L ≤ 9223372036854775807 ∧ (L ≤ 3074457345618258602 → upOf L = 3 * L) := by unfold upOf; split <;> omega
    have := hd.range (by omega) (by omega)
    unfold minOf at h
    split at h <;> exact ⟨by omega, by omega, fun e => by have := hU.2.2 e; omega⟩
  · rw [hk] at h; cases h

theorem drel_add {j : ByteArray} {b m f v : Int} {X : Nat} {d : Int} (hb : 1 ≤ b) (hb' : b < 9223372036854775807) (hm : b ≤ m) (hj : isP j = false) (hk : isD j = false) (h : DRel j b m f v X d) :
    nm b m (f.toNat - 1) ≤ d ∧ d ≤ m ∧ d - nm b m (f.toNat - 1) < b := by
  have hn := nm_bounds hb hm (f.toNat - 1)
  rcases h with ⟨h, _⟩ | ⟨_, h, _⟩ | ⟨_, _, u, X', hd, h⟩
  · rw [hj] at h; cases h
  · rw [hk] at h; cases h
  · generalize nm b m (f.toNat - 1) = n at *
    have := hd.range (by omega) (by omega)
    unfold capA at h
    split at h <;> omega

theorem drel_pos {j : ByteArray} {b m f v : Int} {X : Nat} {d : Int} (hb : 1 ≤ b) (hb' : b < 9223372036854775807) (hm : b ≤ m) (hm' : m ≤ 9223372036854775807) (hv : v ≤ 9223372036854775807) (h : DRel j b m f v X d) : 1 ≤ d ∧ d ≤ 9223372036854775807 := by
  have hn := nm_bounds hb hm (f.toNat - 1)
  cases hj : isP j with
  | true =>
    have := drel_prop hb hm hm' hj h
    by_cases e : nm b m (f.toNat - 1) / 2 = 0
    · have := this.1 e; omega
    · have := this.2 e; omega
  | false =>
    cases hk : isD j with
    | true => have := drel_dec hb hb' hm hv hj hk h; omega
    | false => have := drel_add hb hb' hm hj hk h; omega

/-- prev matters only under the decorrelated jitter, behind the first failure, where it passes base -/
theorem drel_prev {j : ByteArray} {b m f v v2 : Int} {X : Nat} {d d2 : Int} (hL : isP j = false → isD j = true → lastOf b f v = lastOf b f v2) (h : DRel j b m f v X d) (h2 : DRel j b m f v2 X d2) : d = d2 := by
  rcases h with ⟨a, h⟩ | ⟨a, b', u, X', hd, h⟩ | ⟨a, b', u, X', hd, h⟩ <;> rcases h2 with ⟨a2, h2⟩ | ⟨a2, b2, u2, X2, hd2, h2⟩ | ⟨a2, b2, u2, X2, hd2, h2⟩
  · rcases h with ⟨e, h⟩ | ⟨e, u, X', hd, h⟩ <;> rcases h2 with ⟨e2, h2⟩ | ⟨e2, u2, X2, hd2, h2⟩
    · rw [h, h2]
    · exact absurd e e2
    · exact absurd e2 e
    · rw [h, h2, hd.unique hd2]
  · rw [a] at a2; cases a2
  · rw [a] at a2; cases a2
  · rw [a] at a2; cases a2
  · rw [hL a b'] at hd; rw [h, h2, hd.unique hd2]
  · rw [b'] at b2; cases b2
  · rw [a] at a2; cases a2
  · rw [b'] at b2; cases b2
  · rw [h, h2, hd.unique hd2]

/-! ### The walks -/
set_option maxHeartbeats 400000 in
theorem bytes9_any (j : ByteArray) (b m f v s1 s2 : Int) (w : World) (hn : j.size ≤ 1048576) :
    Calls Try.prog 9 #[.string j, .int .i64 b, .int .i64 m, .int .i64 f, .int .i64 v, .int .u64 s1, .int .u64 s2] w fun e w' => e = .returned (.bool true) ∧ w' = w := by
  go_enter Try.func9, Try.ntmps9
  go_wp2
  go_ret
  exact ⟨rfl, rfl⟩
set_option maxHeartbeats 400000 in
theorem bytes9_no (j : ByteArray) (b m f v s1 s2 : Int) (w : World) (hn : 1048576 < j.size) :
    Calls Try.prog 9 #[.string j, .int .i64 b, .int .i64 m, .int .i64 f, .int .i64 v, .int .u64 s1, .int .u64 s2] w fun e w' => e = .returned (.bool false) ∧ w' = w := by
  go_enter Try.func9, Try.ntmps9
  go_wp2
  go_ret
  exact ⟨rfl, rfl⟩
set_option maxHeartbeats 400000 in
theorem bytes12_any (j : ByteArray) (b m f v s1 s2 : Int) (w : World) (hn : j.size ≤ 1048576) :
    Calls Try.prog 12 #[.string j, .int .i64 b, .int .i64 m, .int .i64 f, .int .i64 v, .int .u64 s1, .int .u64 s2] w fun e w' => e = .returned (.bool true) ∧ w' = w := by
  go_enter Try.func12, Try.ntmps12
  go_wp2
  go_ret
  exact ⟨rfl, rfl⟩
set_option maxHeartbeats 400000 in
theorem bytes12_no (j : ByteArray) (b m f v s1 s2 : Int) (w : World) (hn : 1048576 < j.size) :
    Calls Try.prog 12 #[.string j, .int .i64 b, .int .i64 m, .int .i64 f, .int .i64 v, .int .u64 s1, .int .u64 s2] w fun e w' => e = .returned (.bool false) ∧ w' = w := by
  go_enter Try.func12, Try.ntmps12
  go_wp2
  go_ret
  exact ⟨rfl, rfl⟩
end Go.Proofs.Qxb6609291a.Dl
