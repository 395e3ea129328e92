/-
  sort.partition_func (63), over the closure that lays blocks.
-/
import Derived.Test.Qxb6609202aDoorPartEq
namespace Go.Proofs.Qxb6609202aDoor.Wr
open Go.RowKit Go.Lib Go.Sort

set_option maxHeartbeats 12800000 in
set_option maxRecDepth 100000 in
theorem part_any (w : World) (blk Bs c n a b pivot : Nat) (d : Array R3) (hs : Hid (SR w blk Bs c d)) (hn : d.size = n) (hap : a ≤ pivot) (hpb : pivot < b) (hbn : b ≤ n) (hsz : n < 1073741824) :
    Calls Tryd.prog 63 #[.agg #[.func (.func 31) #[] #[.pointer (some ⟨Bs, 0, none⟩)], .func (.func 53) #[] #[.slice (some ⟨blk, 0, none⟩) n c, TH]], .int .i64 a, .int .i64 b, .int .i64 pivot] w fun e w' =>
      e = .returned (.tuple #[.int .i64 (Sort.partition lt2 d a b pivot).1, .bool (Sort.partition lt2 d a b pivot).2.1]) ∧ SR w' blk Bs c (Sort.partition lt2 d a b pivot).2.2 ∧ (Sort.partition lt2 d a b pivot).2.2.size = n ∧ Kp (fun k => k = blk) w w' := by
  have HI := Hid.lay (In.start hs.out hn)
  have hblk := hs.out.lt
  have b1 := HI.out.b1
  obtain ⟨hsw, HK⟩ := HI.out.swap hblk a pivot (by omega) (by omega)
  generalize hR : Sort.partition lt2 d a b pivot = R
  have HR := Hid.lay hR
  clear hR
  go_enter Tryd.func63, Tryd.ntmps63
  go_wp2_with fail
  clear b1 hsw
  have hb1 : ((b : Int) - 1) = ((b - 1 : Nat) : Int) := by omega
  have ha1 : ((a : Int) + 1) = ((a + 1 : Nat) : Int) := by omega
  rw [hb1, ha1]
  clear hb1 ha1
  have hij : a + 1 ≤ b - 1 + 1 := by omega
  have hai : a < a + 1 := by omega
  have hjb : b - 1 < b := by omega
  have hdk0 := Hid.lay (rfl : swp d a pivot = swp d a pivot)
  generalize hdk1 : swp d a pivot = dk at HK
  have hdk : Hid (dk = swp d a pivot) := Hid.lay hdk1.symm
  clear hdk1 hdk0
  generalize hi1 : a + 1 = i at *
  generalize hj1 : b - 1 = j at *
  have hi0 : Hid (i = a + 1) := Hid.lay hi1.symm
  have hj0 : Hid (j = b - 1) := Hid.lay hj1.symm
  clear hi1 hj1
  go_loopw [10] (fun vi w1 => ∃ (i' : Nat), vi = .int .i64 i' ∧ i ≤ i' ∧ i' ≤ j + 1 ∧ Hid (In w w1 blk Bs c n dk) ∧ Hid (scanUp (fun x => lt2 x dk[a]!) dk j i' = scanUp (fun x => lt2 x dk[a]!) dk j i)) (fun vi _ => j + 1 - (intOf vi).toNat)
  case atStart => exact ⟨i, rfl, Nat.le_refl _, hij, HK, rfl⟩
  case round =>
    obtain ⟨i', rfl, hii, hij', HJ, HX⟩ := hrel
    have b0 := HJ.out.b0
    by_cases hle : i' ≤ j
    · have hle' : decide ((i' : Int) ≤ j) = true := by simp; omega
      cases hlv : lt2 dk[i']! dk[a]! with
      | true =>
        go_wp2_with (go_at_call 31; refine (HJ.out.cmp i' a rfl rfl (by omega) (by omega) true hlv).mono ?_; rintro e w2 ⟨rfl, HN⟩; clear b0)
        refine ⟨⟨i' + 1, by push_cast; rfl, by omega, by omega, HN, ?_⟩, by simp [intOf]; omega⟩
        show _ = _
        rw [← HX.out]
        exact (scanUp_go _ dk j i' hle (by simp [hlv])).symm
      | false =>
        go_wp2_with (go_at_call 31; refine (HJ.out.cmp i' a rfl rfl (by omega) (by omega) false hlv).mono ?_; rintro e w2 ⟨rfl, HN⟩; clear b0)
        have hi2 : i' = scanUp (fun x => lt2 x dk[a]!) dk j i := by
          show _ = _
          rw [← HX.out]
          exact (scanUp_end _ dk j i' (.inr (by simp [hlv]))).symm
        have HI2 := Hid.lay hi2
        clear hi2
        go_loopw [11] (fun vj w2 => ∃ (j' : Nat), vj = .int .i64 j' ∧ j' ≤ j ∧ i' ≤ j' + 1 ∧ Hid (In w w2 blk Bs c n dk) ∧ Hid (scanDown (fun x => !lt2 x dk[a]!) dk i' j' = scanDown (fun x => !lt2 x dk[a]!) dk i' j)) (fun vj _ => (intOf vj).toNat)
        case atStart => exact ⟨j, rfl, Nat.le_refl _, hij', HN, rfl⟩
        case round =>
          obtain ⟨j', rfl, hjj, hij2, HM, HY⟩ := hrel
          have b0 := HM.out.b0
          by_cases hle2 : i' ≤ j'
          · have hle2' : decide ((i' : Int) ≤ j') = true := by simp; omega
            have hgt2' : decide ((i' : Int) > j') = false := by simp; omega
            have hj1 : ((j' - 1 : Nat) : Int) = (j' : Int) - 1 := by omega
            cases hlv2 : lt2 dk[j']! dk[a]! with
            | false =>
              go_wp2_with (go_at_call 31; refine (HM.out.cmp j' a rfl rfl (by omega) (by omega) false hlv2).mono ?_; rintro e w3 ⟨rfl, HN3⟩; clear b0)
              refine ⟨⟨j' - 1, by rw [hj1], by omega, by omega, HN3, ?_⟩, by simp [intOf]; omega⟩
              show _ = _
              rw [← HY.out]
              exact (scanDown_go _ dk i' j' hle2 (by omega) (by simp [hlv2])).symm
            | true =>
              have hj2 : j' = scanDown (fun x => !lt2 x dk[a]!) dk i' j := by
                rw [← HY.out]
                exact (scanDown_end _ dk i' j' (.inr (by simp [hlv2]))).symm
              have HJ2 := Hid.lay hj2
              clear hj2
              have hlt := part_scans_lt lt2 a i j dk (by omega) HI2.out HJ2.out hle2
              have he := Hid.lay (part_first_go lt2 d a b pivot hi0.out hj0.out hdk.out HI2.out HJ2.out (by omega))
              go_wp2_with (go_at_call 31; refine (HM.out.cmp j' a rfl rfl (by omega) (by omega) true hlv2).mono ?_; rintro e w3 ⟨rfl, HN3⟩; clear b0; have b1 := HN3.out.b1; obtain ⟨hsw, HS3⟩ := HN3.out.swap hblk i' j' (by omega) (by omega))
              have HRQ := Hid.lay (HR.out.symm.trans he.out)
              clear he
              generalize hQd : partLoop lt2 a (i' + 1) (j' - 1) (swp dk i' j') = Q at HRQ
              have HQ' := Hid.lay hQd
              clear hQd b1 hsw
              have hdd : decide (j' < i') = false := by simp; omega
              rw [hdd]
              clear hdd
              go_loopw [10, 11] (fun vi vj wr => ∃ (i j : Nat) (dk : Array R3), vi = .int .i64 i ∧ vj = .int .i64 j ∧ a < i ∧ i ≤ j + 1 ∧ j < b ∧ Hid (In w wr blk Bs c n dk) ∧ Hid (partLoop lt2 a i j dk = Q)) (fun vi vj _ => (intOf vj + 1 - intOf vi).toNat)
              case atStart => exact ⟨i' + 1, j' - 1, _, by push_cast; rfl, by rw [hj1], by omega, by omega, by omega, HS3, HQ'.out⟩
              case round =>
                clear HI2 HJ2 HX HY HJ HM HN HN3 HS3 HK hdk hi0 hj0 HQ' hj1 hle' hle2' hgt2' hlv hlv2
                clear hle hle2 hlt hjj hij2 hii hij' hij hai hjb
                obtain ⟨i, j, dk, rfl, rfl, hai, hij, hjb, HK, HO⟩ := hrel
                go_wp2_with fail
                go_loopw [10] (fun vi w1 => ∃ (i' : Nat), vi = .int .i64 i' ∧ i ≤ i' ∧ i' ≤ j + 1 ∧ Hid (In w w1 blk Bs c n dk) ∧ Hid (scanUp (fun x => lt2 x dk[a]!) dk j i' = scanUp (fun x => lt2 x dk[a]!) dk j i)) (fun vi _ => j + 1 - (intOf vi).toNat)
                case atStart => exact ⟨i, rfl, Nat.le_refl _, hij, HK, rfl⟩
                case round =>
                  obtain ⟨i', rfl, hii, hij', HJ, HX⟩ := hrel
                  have b0 := HJ.out.b0
                  by_cases hle : i' ≤ j
                  · have hle' : decide ((i' : Int) ≤ j) = true := by simp; omega
                    cases hlv : lt2 dk[i']! dk[a]! with
                    | true =>
                      go_wp2_with (go_at_call 31; refine (HJ.out.cmp i' a rfl rfl (by omega) (by omega) true hlv).mono ?_; rintro e w2 ⟨rfl, HN⟩; clear b0)
                      refine ⟨⟨i' + 1, by push_cast; rfl, by omega, by omega, HN, ?_⟩, by simp [intOf]; omega⟩
                      show _ = _
                      rw [← HX.out]
                      exact (scanUp_go _ dk j i' hle (by simp [hlv])).symm
                    | false =>
                      go_wp2_with (go_at_call 31; refine (HJ.out.cmp i' a rfl rfl (by omega) (by omega) false hlv).mono ?_; rintro e w2 ⟨rfl, HN⟩; clear b0)
                      have hi2 : i' = scanUp (fun x => lt2 x dk[a]!) dk j i := by
                        show _ = _
                        rw [← HX.out]
                        exact (scanUp_end _ dk j i' (.inr (by simp [hlv]))).symm
                      have HI2 := Hid.lay hi2
                      clear hi2
                      go_loopw [11] (fun vj w2 => ∃ (j' : Nat), vj = .int .i64 j' ∧ j' ≤ j ∧ i' ≤ j' + 1 ∧ Hid (In w w2 blk Bs c n dk) ∧ Hid (scanDown (fun x => !lt2 x dk[a]!) dk i' j' = scanDown (fun x => !lt2 x dk[a]!) dk i' j)) (fun vj _ => (intOf vj).toNat)
                      case atStart => exact ⟨j, rfl, Nat.le_refl _, hij', HN, rfl⟩
                      case round =>
                        obtain ⟨j', rfl, hjj, hij2, HM, HY⟩ := hrel
                        have b0 := HM.out.b0
                        by_cases hle2 : i' ≤ j'
                        · have hle2' : decide ((i' : Int) ≤ j') = true := by simp; omega
                          have hgt2' : decide ((i' : Int) > j') = false := by simp; omega
                          have hj1 : ((j' - 1 : Nat) : Int) = (j' : Int) - 1 := by omega
                          cases hlv2 : lt2 dk[j']! dk[a]! with
                          | false =>
                            go_wp2_with (go_at_call 31; refine (HM.out.cmp j' a rfl rfl (by omega) (by omega) false hlv2).mono ?_; rintro e w3 ⟨rfl, HN3⟩; clear b0)
                            refine ⟨⟨j' - 1, by rw [hj1], by omega, by omega, HN3, ?_⟩, by simp [intOf]; omega⟩
                            show _ = _
                            rw [← HY.out]
                            exact (scanDown_go _ dk i' j' hle2 (by omega) (by simp [hlv2])).symm
                          | true =>
                            have hj2 : j' = scanDown (fun x => !lt2 x dk[a]!) dk i' j := by
                              rw [← HY.out]
                              exact (scanDown_end _ dk i' j' (.inr (by simp [hlv2]))).symm
                            have HJ2 := Hid.lay hj2
                            clear hj2
                            have hlt := part_scans_lt lt2 a i j dk (by omega) HI2.out HJ2.out hle2
                            have he := Hid.lay (part_go lt2 a i j dk HI2.out HJ2.out (by omega))
                            go_wp2_with (go_at_call 31; refine (HM.out.cmp j' a rfl rfl (by omega) (by omega) true hlv2).mono ?_; rintro e w3 ⟨rfl, HN3⟩; clear b0; have b1 := HN3.out.b1; obtain ⟨hsw, HS3⟩ := HN3.out.swap hblk i' j' (by omega) (by omega))
                            refine ⟨⟨i' + 1, j' - 1, _, by push_cast; rfl, by rw [hj1], by omega, by omega, by omega, HS3, he.out.symm.trans HO.out⟩, by simp [intOf]; omega⟩
                        · have hle2' : decide ((i' : Int) ≤ j') = false := by simp; omega
                          have hgt2' : decide ((i' : Int) > j') = true := by simp; omega
                          have hj2 : j' = scanDown (fun x => !lt2 x dk[a]!) dk i' j := by
                            rw [← HY.out]
                            exact (scanDown_end _ dk i' j' (.inl hle2)).symm
                          have HJ2 := Hid.lay hj2
                          clear hj2
                          have b1 := HM.out.b1
                          obtain ⟨hsw, HS3⟩ := HM.out.swap hblk j' a (by omega) (by omega)
                          have he := part_break lt2 a i j dk HI2.out HJ2.out (by omega)
                          rw [HO.out] at he
                          have HE2 := Hid.lay he
                          clear he
                          go_wp2_with fail
                          go_ret2
                          rw [HRQ.out, HE2.out]
                          exact ⟨rfl, HS3.out.sr, HS3.out.sz, HS3.out.kp⟩
                  · have hle' : decide ((i' : Int) ≤ j) = false := by simp; omega
                    have HN := HJ
                    clear b0
                    go_wp2_with fail
                    have hi2 : i' = scanUp (fun x => lt2 x dk[a]!) dk j i := by
                      show _ = _
                      rw [← HX.out]
                      exact (scanUp_end _ dk j i' (.inl hle)).symm
                    have HI2 := Hid.lay hi2
                    clear hi2
                    go_loopw [11] (fun vj w2 => ∃ (j' : Nat), vj = .int .i64 j' ∧ j' ≤ j ∧ i' ≤ j' + 1 ∧ Hid (In w w2 blk Bs c n dk) ∧ Hid (scanDown (fun x => !lt2 x dk[a]!) dk i' j' = scanDown (fun x => !lt2 x dk[a]!) dk i' j)) (fun vj _ => (intOf vj).toNat)
                    case atStart => exact ⟨j, rfl, Nat.le_refl _, hij', HN, rfl⟩
                    case round =>
                      obtain ⟨j', rfl, hjj, hij2, HM, HY⟩ := hrel
                      have b0 := HM.out.b0
                      by_cases hle2 : i' ≤ j'
                      · omega
                      · have hle2' : decide ((i' : Int) ≤ j') = false := by simp; omega
                        have hgt2' : decide ((i' : Int) > j') = true := by simp; omega
                        have hj2 : j' = scanDown (fun x => !lt2 x dk[a]!) dk i' j := by
                          rw [← HY.out]
                          exact (scanDown_end _ dk i' j' (.inl hle2)).symm
                        have HJ2 := Hid.lay hj2
                        clear hj2
                        have b1 := HM.out.b1
                        obtain ⟨hsw, HS3⟩ := HM.out.swap hblk j' a (by omega) (by omega)
                        have he := part_break lt2 a i j dk HI2.out HJ2.out (by omega)
                        rw [HO.out] at he
                        have HE2 := Hid.lay he
                        clear he
                        go_wp2_with fail
                        go_ret2
                        rw [HRQ.out, HE2.out]
                        exact ⟨rfl, HS3.out.sr, HS3.out.sz, HS3.out.kp⟩
          · have hle2' : decide ((i' : Int) ≤ j') = false := by simp; omega
            have hgt2' : decide ((i' : Int) > j') = true := by simp; omega
            have hj2 : j' = scanDown (fun x => !lt2 x dk[a]!) dk i' j := by
              rw [← HY.out]
              exact (scanDown_end _ dk i' j' (.inl hle2)).symm
            have HJ2 := Hid.lay hj2
            clear hj2
            have b1 := HM.out.b1
            obtain ⟨hsw, HS3⟩ := HM.out.swap hblk j' a (by omega) (by omega)
            have he := part_first_break lt2 d a b pivot hi0.out hj0.out hdk.out HI2.out HJ2.out (by omega)
            have HE2 := Hid.lay (HR.out.symm.trans he)
            clear he
            go_wp2_with fail
            go_ret2
            rw [HE2.out]
            exact ⟨rfl, HS3.out.sr, HS3.out.sz, HS3.out.kp⟩
    · have hle' : decide ((i' : Int) ≤ j) = false := by simp; omega
      have HN := HJ
      clear b0
      go_wp2_with fail
      have hi2 : i' = scanUp (fun x => lt2 x dk[a]!) dk j i := by
        show _ = _
        rw [← HX.out]
        exact (scanUp_end _ dk j i' (.inl hle)).symm
      have HI2 := Hid.lay hi2
      clear hi2
      go_loopw [11] (fun vj w2 => ∃ (j' : Nat), vj = .int .i64 j' ∧ j' ≤ j ∧ i' ≤ j' + 1 ∧ Hid (In w w2 blk Bs c n dk) ∧ Hid (scanDown (fun x => !lt2 x dk[a]!) dk i' j' = scanDown (fun x => !lt2 x dk[a]!) dk i' j)) (fun vj _ => (intOf vj).toNat)
      case atStart => exact ⟨j, rfl, Nat.le_refl _, hij', HN, rfl⟩
      case round =>
        obtain ⟨j', rfl, hjj, hij2, HM, HY⟩ := hrel
        have b0 := HM.out.b0
        by_cases hle2 : i' ≤ j'
        · omega
        · have hle2' : decide ((i' : Int) ≤ j') = false := by simp; omega
          have hgt2' : decide ((i' : Int) > j') = true := by simp; omega
          have hj2 : j' = scanDown (fun x => !lt2 x dk[a]!) dk i' j := by
            rw [← HY.out]
            exact (scanDown_end _ dk i' j' (.inl hle2)).symm
          have HJ2 := Hid.lay hj2
          clear hj2
          have b1 := HM.out.b1
          obtain ⟨hsw, HS3⟩ := HM.out.swap hblk j' a (by omega) (by omega)
          have he := part_first_break lt2 d a b pivot hi0.out hj0.out hdk.out HI2.out HJ2.out (by omega)
          have HE2 := Hid.lay (HR.out.symm.trans he)
          clear he
          go_wp2_with fail
          go_ret2
          rw [HE2.out]
          exact ⟨rfl, HS3.out.sr, HS3.out.sz, HS3.out.kp⟩
end Go.Proofs.Qxb6609202aDoor.Wr
