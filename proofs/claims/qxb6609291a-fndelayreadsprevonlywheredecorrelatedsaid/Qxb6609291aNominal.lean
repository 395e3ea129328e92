/-
  (backoff).nominal (18), zzb1Nominal (11).
-/
import Derived.Test.Qxb6609291aProg
import Derived.WalkKit
namespace Go.Proofs.Qxb6609291a.Dl
open Go.RowKit

theorem ret_int {k : IntKind} {a b : Int} (h : a = b) : Ending.returned (.int k a) = .returned (.int k b) := by rw [h]

/-- base doubled k times -/
def dbl (b : Int) : Nat → Int
  | 0 => b
  | k + 1 => dbl b k * 2
/-- the nominal delay after s doublings -/
def nm (b m : Int) (s : Nat) : Int := if dbl b s ≤ m then dbl b s else m

theorem dbl_pos (b : Int) (hb : 1 ≤ b) (k : Nat) : (k : Int) + 1 ≤ dbl b k := by
  induction k with
  | zero => simpa [dbl] using hb
  | succ k ih => simp only [dbl]; omega
theorem dbl_mono (b : Int) (hb : 1 ≤ b) {j k : Nat} (h : j ≤ k) : dbl b j ≤ dbl b k := by
  induction k with
  | zero => obtain rfl : j = 0 := by omega
            omega
  | succ k ih =>
    by_cases e : j = k + 1
    · subst e; omega
    · have := ih (by omega); have := dbl_pos b hb k; simp only [dbl]; omega
theorem dbl_pow (b : Int) (k : Nat) : dbl b k = b * 2 ^ k := by
  induction k with
  | zero => simp [dbl]
  | succ k ih => rw [dbl, ih, Int.pow_succ, Int.mul_assoc]

theorem nm_end {b m : Int} {s : Nat} (h : dbl b s ≤ m) : nm b m s = dbl b s := by simp [nm, h]
theorem nm_cap {b m : Int} (hb : 1 ≤ b) {k s : Nat} (hk : k < s) (h : m / 2 < dbl b k) : nm b m s = m := by
  have h1 := dbl_mono b hb (show k + 1 ≤ s from hk)
  simp only [dbl] at h1
  unfold nm
  rw [if_neg (by omega)]
theorem nm_bounds {b m : Int} (hb : 1 ≤ b) (hm : b ≤ m) (s : Nat) : b ≤ nm b m s ∧ nm b m s ≤ m := by
  have := dbl_mono b hb (Nat.zero_le s)
  simp only [dbl] at this
  unfold nm; split <;> omega

theorem nm_far {b m : Int} (hb : 1 ≤ b) (hm : m ≤ 9223372036854775807) {s : Nat} (h : 63 ≤ s) : nm b m s = m := by
  have h1 := dbl_mono b hb h
  rw [dbl_pow b 63] at h1
  unfold nm
  rw [if_neg (by omega)]
theorem nm_in {b m : Int} (hb : 1 ≤ b) (hm : m ≤ 9223372036854775807) {s : Nat} (h : b ≤ m / 2 ^ s) : wrap64 (b * 2 ^ s) = nm b m s := by
  have hp : (0 : Int) < 2 ^ s := Int.pow_pos (by omega)
  have h1 : b * 2 ^ s ≤ m := (Int.le_ediv_iff_mul_le hp).1 h
  have h2 := dbl_pos b hb s
  rw [dbl_pow] at h2
  rw [nm_end (by rw [dbl_pow]; exact h1), dbl_pow]
  generalize b * 2 ^ s = N at *
  unfold wrap64
  omega
theorem nm_out {b m : Int} {s : Nat} (h : m / 2 ^ s < b) : nm b m s = m := by
  have hp : (0 : Int) < 2 ^ s := Int.pow_pos (by omega)
  have h1 : m < b * 2 ^ s := (Int.ediv_lt_iff_lt_mul hp).1 h
  unfold nm
  rw [if_neg (by rw [dbl_pow]; omega)]

set_option maxHeartbeats 1000000 in
theorem nominal_any (j : ByteArray) (b m f : Int) (hb : 1 ≤ b) (hm : b ≤ m) (hm' : m ≤ 9223372036854775807) (hf : 1 ≤ f) (hf' : f ≤ 9223372036854775807) (w : World) :
    Calls Try.prog 18 #[.agg #[.string j, .int .i64 b, .int .i64 m], .int .i64 f] w fun e w' => e = .returned (.int .i64 (nm b m (f.toNat - 1))) ∧ w' = w.alloc (.cells #[.string j, .int .i64 b, .int .i64 m] 35) := by
  go_enter Try.func18, Try.ntmps18
  go_wp2
  go_loop [5, 10] (fun n i => ∃ k : Nat, (k : Int) ≤ f - 1 ∧ i = .int .i64 k ∧ n = .int .i64 (dbl b k) ∧ dbl b k ≤ m) (fun _ i => (f - 1).toNat - (intOf i).toNat)
  case atStart => exact ⟨0, by omega, rfl, rfl, hm⟩
  case round =>
    obtain ⟨k, hk, rfl, rfl, hd⟩ := hrel
    have hp := dbl_pos b hb k
    have HS : Hid (dbl b (k + 1) = dbl b k * 2) := rfl
    by_cases hlt : (k : Int) < f - 1
    · by_cases hc : m / 2 < dbl b k
      · have HE : Hid (nm b m (f.toNat - 1) = m) := nm_cap hb (k := k) (by omega) hc
        generalize dbl b k = N at *
        go_wp2
        go_ret
        exact ⟨ret_int HE.out.symm, rfl⟩
      · generalize dbl b k = N at *
        go_wp2
        go_round
        case rel => exact ⟨k + 1, by omega, by go_num, by rw [HS.out], by rw [HS.out]; omega⟩
        case measure => simp [intOf]; omega
    · have HE : Hid (nm b m (f.toNat - 1) = dbl b k) := by
        have e : f.toNat - 1 = k := by omega
        show _ = _
        rw [e]; exact nm_end hd
      generalize dbl b k = N at *
      go_wp2
      go_ret
      exact ⟨ret_int HE.out.symm, rfl⟩

set_option maxHeartbeats 1000000 in
theorem zzNominal_any (b m f : Int) (hb : 1 ≤ b) (_hm : b ≤ m) (hm' : m ≤ 9223372036854775807) (hf : 1 ≤ f) (hf' : f ≤ 9223372036854775807) (w : World) :
    Calls Try.prog 11 #[.int .i64 b, .int .i64 m, .int .i64 f] w fun e w' => e = .returned (.int .i64 (nm b m (f.toNat - 1))) ∧ w' = w := by
  go_enter Try.func11, Try.ntmps11
  go_wp2
  · go_ret
    exact ⟨ret_int (nm_far hb hm' (by omega)).symm, rfl⟩
  · go_ret
    exact ⟨ret_int (nm_in hb hm' (by assumption)), rfl⟩
  · go_ret
    exact ⟨ret_int (nm_out (by assumption)).symm, rfl⟩
end Go.Proofs.Qxb6609291a.Dl
