/-
  FnAtOrAfterIsLeastFireAtOrAfter (3): the walk.
-/
import Derived.Test.Qxb6612426aSmall
namespace Go.Proofs.Qxb6612426a.Tm
open Go.RowKit

theorem stp_none' {a X : Int} (h : a ≤ X) : stp (a - 1) none X = some X := stp_none (by omega)
theorem stp_lt' {a X m : Int} (h : a ≤ X) (k : X < m) : stp (a - 1) (some m) X = some X := stp_lt (by omega) k
theorem stp_no' {a X : Int} {o : Option Int} (h : ¬ a ≤ X) : stp (a - 1) o X = o := stp_no (by omega)

set_option maxHeartbeats 1000000 in
theorem least_any (a : Int) (a0 : -9223372036854775808 ≤ a) (a1 : a ≤ 9223372036854775807) (xs : List Int) (A : Option Addr) (bs os cap : Nat) (w : World)
    (hl : xs.length ≤ 65536) (hr : Hid (Rd w xs A bs os)) (hf : Hid (Fit xs)) :
    Calls Try.prog 3 #[.slice A xs.length cap, .int .i64 a] w fun e w' => e = .returned (.bool true) ∧ Below w.heap.size w w' := by
  go_enter Try.func3, Try.ntmps3
  go_wp2_with fail
  refine (bytes5_any _ _ _ _ _ (by omega)).mono ?_
  rintro e w' ⟨rfl, hw⟩
  rw [hw]
  clear hw w'
  go_wp2_with fail
  refine (clone_any xs A bs os cap _ (by omega) hr).mono ?_
  rintro e w1 ⟨A1, b1, c1, rfl, R1, hb1⟩
  have HR1 : Hid (Rd w1 xs A1 b1 0) := R1
  clear R1
  go_wp2_with fail
  refine (zzAtOrAfter_any a a0 a1 xs A1 b1 0 c1 _ (by omega) HR1 hf).mono ?_
  rintro e w2 ⟨rfl, hb2⟩
  have HR2 : Hid (Rd w2 xs A1 b1 0) := HR1.out.step hb2
  have HB : Hid (Below w.heap.size w w2) := hb1.trans (hb2.mono hb1.size)
  clear HR1 hb1 hb2 hr
  go_wp2_with fail
  go_loop [7, 8, 9] (fun f v i => ∃ k : Nat, k ≤ xs.length ∧ i = .int .i64 k ∧ f = .bool (best (a - 1) (xs.take k)).isSome ∧ v = .int .i64 ((best (a - 1) (xs.take k)).getD 0)) (fun _ _ i => xs.length - (intOf i).toNat)
  case atStart => exact ⟨0, Nat.zero_le _, rfl, rfl, rfl⟩
  case round =>
    obtain ⟨k, hk, rfl, rfl, rfl⟩ := hrel
    by_cases hlt : k < xs.length
    · obtain rfl := HR2.out.hA (by omega)
      have he := HR2.out.hcell k hlt
      rw [Nat.zero_add] at he
      have HS : Hid (best (a - 1) (xs.take (k + 1)) = stp (a - 1) (best (a - 1) (xs.take k)) (xs.getD k 0)) := best_snoc (a - 1) xs k hlt
      generalize xs.getD k 0 = X at *
      generalize best (a - 1) (xs.take k) = o at *
      by_cases hgt : a ≤ X
      · cases o with
        | none =>
          go_wp2
          go_round
          case rel => exact ⟨k + 1, by omega, by go_num, by rw [HS.out, stp_none' hgt]; rfl, by rw [HS.out, stp_none' hgt]; rfl⟩
          case measure => simp [intOf]; omega
        | some m =>
          by_cases hle : X < m
          · go_wp2
            go_round
            case rel => exact ⟨k + 1, by omega, by go_num, by rw [HS.out, stp_lt' hgt hle]; rfl, by rw [HS.out, stp_lt' hgt hle]; rfl⟩
            case measure => simp [intOf]; omega
          · go_wp2
            go_round
            case rel => exact ⟨k + 1, by omega, by go_num, by rw [HS.out, stp_ge hle], by rw [HS.out, stp_ge hle]⟩
            case measure => simp [intOf]; omega
      · go_wp2
        go_round
        case rel => exact ⟨k + 1, by omega, by go_num, by rw [HS.out, stp_no' hgt], by rw [HS.out, stp_no' hgt]⟩
        case measure => simp [intOf]; omega
    · obtain rfl : k = xs.length := by omega
      rw [List.take_length]
      generalize best (a - 1) xs = o at *
      cases o with
      | none =>
        go_wp2
        go_ret
        exact ⟨rfl, HB.out⟩
      | some m =>
        go_wp2
        go_ret
        exact ⟨rfl, HB.out⟩
end Go.Proofs.Qxb6612426a.Tm
