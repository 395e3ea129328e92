/-
  FnAtOrAfterWalksEveryFireOnceInOrder (4): the walk.
-/
import Derived.Test.Qxb6612426aSmall
import Derived.Test.Qxb6612426aPlain
import Derived.Deep.QuietTactic
import Derived.BigQuiet
import Derived.WalkSmall
namespace Go.Proofs.Qxb6612426a.Tm
open Go.RowKit

set_option maxHeartbeats 1000000 in
theorem walks_any (a : Int) (a0 : -9223372036854775808 ≤ a) (a1 : a ≤ 9223372036854775807) (xs : List Int) (A : Option Addr) (bs os cap : Nat) (w : World)
    (hl : xs.length ≤ 4096) (hr : Hid (Rd w xs A bs os)) (hf : Hid (Fit xs)) :
    Calls Try.prog 4 #[.slice A xs.length cap, .int .i64 a] w fun e w' => e = .returned (.bool true) ∧ Below w.heap.size w w' := by
  go_enter Try.func4, Try.ntmps4
  go_wp2_with fail
  refine (bytes8_any _ _ _ _ _ (by omega)).mono ?_
  rintro e w' ⟨rfl, hw⟩
  rw [hw]
  clear hw w'
  go_wp2_with fail
  refine (clone_any xs A bs os cap _ (by omega) hr).mono ?_
  rintro e w1 ⟨A1, b1, c1, rfl, R1, hb1⟩
  have HR1 : Hid (Rd w1 xs A1 b1 0) := R1
  have HB1 : Hid (Below w.heap.size w w1) := hb1
  clear R1 hr hb1
  go_wp2_with fail
  go_loopw [5, 6] (fun d i wr => ∃ k : Nat, k ≤ xs.length ∧ i = .int .i64 k ∧ d = .int .i64 (cnt a xs k) ∧ Below w1.heap.size w1 wr) (fun _ i _ => xs.length - (intOf i).toNat)
  case atStart => exact ⟨0, Nat.zero_le _, rfl, rfl, Below.refl _ _⟩
  case round =>
    obtain ⟨k, hk, rfl, rfl, hb⟩ := hrel
    have HR : Hid (Rd wr xs A1 b1 0) := HR1.out.step hb
    have hck := cnt_le a xs k
    by_cases hlt : k < xs.length
    · obtain rfl := HR.out.hA (by omega)
      have he := HR.out.hcell k hlt
      rw [Nat.zero_add] at he
      by_cases hgt : xs.getD k 0 < a
      · have HC : Hid (cnt a xs (k + 1) = cnt a xs k) := cnt_lt hgt
        generalize xs.getD k 0 = X at *
        go_wp2
        go_roundw
        case rel => exact ⟨k + 1, by omega, by go_num, by rw [HC.out], hb⟩
        case measure => simp [intOf]; omega
      · have HC1 : Hid (seenTo xs k k = true → cnt a xs (k + 1) = cnt a xs k) := cnt_seen
        have HC2 : Hid (seenTo xs k k = false → cnt a xs (k + 1) = cnt a xs k + 1) := cnt_new hgt
        have HQ : Hid (∀ j, seenTo xs k (j + 1) = (seenTo xs k j || (xs.getD j 0 == xs.getD k 0))) := fun j => rfl
        have HK : Hid (∃ X, xs.getD k 0 = X) := ⟨_, rfl⟩
        obtain ⟨X, hX⟩ := HK.out
        have HX : Hid (xs.getD k 0 = X) := hX
        rw [hX] at he hgt
        rw [hX] at HQ
        clear hX HK
        go_wp2
        go_loopw [7, 8] (fun s j wq => ∃ i : Nat, i ≤ k ∧ j = .int .i64 i ∧ s = .bool (seenTo xs k i) ∧ Below w1.heap.size w1 wq) (fun _ j _ => k - (intOf j).toNat)
        case atStart => exact ⟨0, Nat.zero_le _, rfl, rfl, hb⟩
        case round =>
          obtain ⟨i, hi, rfl, rfl, hb2⟩ := hrel
          have hX2 : wr.cell? ⟨b1, k, none⟩ = some (.int .i64 X) := by
            have h := (HR1.out.step hb2).hcell k hlt
            rw [Nat.zero_add, HX.out] at h
            exact h
          by_cases hij : i < k
          · have hY2 := (HR1.out.step hb2).hcell i (by omega)
            rw [Nat.zero_add] at hY2
            have HQi := HQ.out i
            have HQ2 : Hid (seenTo xs k (i + 1) = (seenTo xs k i || (xs.getD i 0 == X))) := HQi
            clear HQi
            generalize xs.getD i 0 = Y at *
            generalize seenTo xs k i = sn at *
            by_cases hXY : (Y == X) = true
            · go_wp2
              go_quiet (fail)
              go_wp2
              go_roundw
              case rel => exact ⟨i + 1, by omega, by go_num, by rw [HQ2.out, hXY]; simp, below_drewN hb2 _⟩
              case measure => simp [intOf]; omega
            · have hXY' : (Y == X) = false := by simpa using hXY
              clear hXY
              go_wp2
              go_quiet (fail)
              go_wp2
              go_roundw
              case rel => exact ⟨i + 1, by omega, by go_num, by rw [HQ2.out, hXY']; simp, below_drewN hb2 _⟩
              case measure => simp [intOf]; omega
          · obtain rfl : i = k := by omega
            cases hs : seenTo xs i i with
            | true =>
              have HC := HC1.out hs
              have HC' : Hid (cnt a xs (i + 1) = cnt a xs i) := HC
              clear HC hs
              go_wp2
              go_roundw
              case rel => exact ⟨i + 1, by omega, by go_num, by rw [HC'.out], hb2⟩
              case measure => simp [intOf]; omega
            | false =>
              have HC := HC2.out hs
              have HC' : Hid (cnt a xs (i + 1) = cnt a xs i + 1) := HC
              clear HC hs
              go_wp2
              go_roundw
              case rel => exact ⟨i + 1, by omega, by go_num, by rw [HC'.out]; go_num, hb2⟩
              case measure => simp [intOf]; omega
    · obtain rfl : k = xs.length := by omega
      have HR2 : Hid (Rd wr xs A1 b1 0) := HR
      have HBw : Hid (Below w.heap.size w wr) := HB1.out.trans (hb.mono HB1.out.size)
      have hmax : cnt a xs xs.length ≤ xs.length := hck
      have HD : Hid (∃ D, cnt a xs xs.length = D) := ⟨_, rfl⟩
      obtain ⟨D, hD⟩ := HD.out
      rw [hD] at hmax hck
      rw [hD]
      have HD' : Hid (cnt a xs xs.length = D) := hD
      clear hD HD HR HR1 HB1 hb
      go_wp2
      go_loopw [9, 10, 11] (fun c n s wq => ∃ (cur : Int) (m : Nat), c = .int .i64 cur ∧ n = .int .i64 m ∧ s = .int .i64 m ∧ -9223372036854775808 ≤ cur ∧ cur ≤ 9223372036854775807 ∧ Hid (m + cnt cur xs xs.length = D) ∧ Below wr.heap.size wr wq) (fun _ _ s _ => xs.length + 1 - (intOf s).toNat)
      case atStart => exact ⟨a, 0, rfl, rfl, rfl, a0, a1, by show _ = _; rw [Nat.zero_add]; exact HD'.out, Below.refl _ _⟩
      case round =>
        obtain ⟨cur, m, rfl, rfl, rfl, cu0, cu1, HM, hbq⟩ := hrel
        have hm : m ≤ xs.length := by have := HM.out; omega
        have HR3 : Hid (Rd wr xs A1 b1 0) := HR2.out.step hbq
        have HBq : Hid (Below w.heap.size w wr) := HBw.out.trans (hbq.mono HBw.out.size)
        have HBQ : Hid (∀ w2, Below wr.heap.size wr w2 → Below _ _ w2) := fun w2 h => hbq.trans (h.mono hbq.size)
        clear hbq
        go_wp2_with fail
        refine (zzAtOrAfter_any cur cu0 cu1 xs A1 b1 0 c1 _ (by omega) HR3 hf).mono ?_
        rintro e w2 ⟨rfl, hb2⟩
        have HRR : Hid (Rd w2 xs A1 b1 0) := HR3.out.step hb2
        have HBB : Hid (Below w.heap.size w w2) := HBq.out.trans (hb2.mono HBq.out.size)
        have HBW := HBQ.out w2 hb2
        have HBW' : Hid (Below _ _ w2) := HBW
        clear HBW hb2 HBq HR3
        cases hbst : best (cur - 1) xs with
        | none =>
          have e1 := cnt_none hbst
          obtain rfl : D = m := by have := HM.out; omega
          clear e1 hbst
          go_wp2_with fail
          go_ret
          exact ⟨rfl, HBB.out⟩
        | some g =>
          obtain ⟨hg1, hg2, _⟩ := best_some hbst
          have HG : Hid (g ∈ xs) := hg1
          have hgf := best_fit (cur - 1) xs hf.out
          rw [hbst] at hgf
          simp only [Option.getD_some] at hgf
          have e1 := cnt_some hbst
          have HM1 : Hid (m + 1 + cnt (g + 1) xs xs.length = D) := by show _ = _; have := HM.out; omega
          clear e1 hbst hg1
          go_wp2_with fail
          refine (member_any g xs A1 b1 0 c1 _ (by omega) HRR HG).mono ?_
          rintro e w3 ⟨rfl, hw3⟩
          rw [hw3]
          clear hw3 w3
          by_cases hgm : (g == 9223372036854775807) = true
          · have e2 := cnt_top xs hf.out
            obtain rfl : D = m + 1 := by have h3 := HM1.out; have h4 : g = 9223372036854775807 := by simpa using hgm
                                         rw [h4, e2] at h3; omega
            clear e2
            go_wp2_with fail
            go_ret
            exact ⟨rfl, HBB.out⟩
          · have hgm' : (g == 9223372036854775807) = false := by simpa using hgm
            have hglt : g < 9223372036854775807 := by have : g ≠ 9223372036854775807 := by simpa using hgm
                                                      omega
            clear hgm
            go_wp2_with fail
            go_roundw
            case rel => exact ⟨g + 1, m + 1, rfl, by go_num, by go_num, by omega, by omega, HM1, HBW'.out⟩
            case measure => simp [intOf]; omega
end Go.Proofs.Qxb6612426a.Tm
