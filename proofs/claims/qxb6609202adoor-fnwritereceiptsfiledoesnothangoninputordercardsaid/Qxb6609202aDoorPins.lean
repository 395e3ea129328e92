/-
  sort.partialInsertionSort_func (61), over the closure that lays blocks.
-/
import Derived.Test.Qxb6609202aDoorHeap
import Derived.Sort.WalkA6
namespace Go.Proofs.Qxb6609202aDoor.Wr
open Go.RowKit Go.Lib Go.Sort

set_option maxHeartbeats 12800000 in
set_option maxRecDepth 100000 in
theorem pins_any (w : World) (blk Bs c n a b : Nat) (d : Array R3) (hs : Hid (SR w blk Bs c d)) (hn : d.size = n) (hab : a < b) (hbn : b ≤ n) (hsz : n < 1073741824) :
    Calls Tryd.prog 61 #[.agg #[.func (.func 31) #[] #[.pointer (some ⟨Bs, 0, none⟩)], .func (.func 53) #[] #[.slice (some ⟨blk, 0, none⟩) n c, TH]], .int .i64 a, .int .i64 b] w fun e w' =>
      e = .returned (.bool (Sort.partialInsertionSort lt2 d a b).2) ∧ SR w' blk Bs c (Sort.partialInsertionSort lt2 d a b).1 ∧ (Sort.partialInsertionSort lt2 d a b).1.size = n ∧ Kp (fun k => k = blk) w w' := by
  have HI := Hid.lay (In.start hs.out hn)
  have hblk := hs.out.lt
  have HR : Hid (partialIns lt2 a b 5 (a + 1) d = Sort.partialInsertionSort lt2 d a b) := rfl
  generalize Sort.partialInsertionSort lt2 d a b = R at HR ⊢
  go_enter Tryd.func61, Tryd.ntmps61
  go_wp2_with fail
  go_loopw [7, 8] (fun vi vs wr => ∃ (i st : Nat) (dk : Array R3), vi = .int .i64 i ∧ vs = .int .i64 st ∧ a < i ∧ i ≤ b ∧ st ≤ 5 ∧ Hid (In w wr blk Bs c n dk) ∧ Hid (partialIns lt2 a b (5 - st) i dk = R)) (fun _ vs _ => 5 - (intOf vs).toNat)
  case atStart => exact ⟨a + 1, 0, d, by push_cast; rfl, rfl, by omega, by omega, by omega, HI, HR.out⟩
  case round =>
    obtain ⟨i, st, dk, rfl, rfl, hai, hib, hst, HK, HO⟩ := hrel
    by_cases hs5 : st < 5
    · have hs5' : decide ((st : Int) < 5) = true := by simp; omega
      go_wp2_with fail
      go_loopw [7] (fun vi w1 => ∃ (i' : Nat), vi = .int .i64 i' ∧ i ≤ i' ∧ i' ≤ b ∧ Hid (In w w1 blk Bs c n dk) ∧ Hid (scanSorted lt2 dk b i' = scanSorted lt2 dk b i)) (fun vi _ => b - (intOf vi).toNat)
      case atStart => exact ⟨i, rfl, Nat.le_refl _, hib, HK, rfl⟩
      case round =>
        obtain ⟨i', rfl, hii, hib', HJ0, HX0⟩ := hrel
        clear HK
        have b0 := HJ0.out.b0
        have hi1 : ((i' - 1 : Nat) : Int) = (i' : Int) - 1 := by omega
        by_cases hlt : i' < b
        · have hlt' : decide ((i' : Int) < b) = true := by simp; omega
          have hne' : ((i' : Int) == b) = false := by rw [beq_eq_false_iff_ne]; omega
          cases hlv0 : lt2 dk[i']! dk[i' - 1]! with
          | false =>
            go_wp2_with (go_at_call 31; refine (HJ0.out.cmp i' (i' - 1) rfl hi1.symm (by omega) (by omega) false hlv0).mono ?_; rintro e w2 ⟨rfl, HN⟩; clear b0)
            refine ⟨⟨i' + 1, by push_cast; rfl, by omega, by omega, HN, (scanSorted_go lt2 dk b i' hlt hlv0).symm.trans HX0.out⟩, by simp [intOf]; omega⟩
          | true =>
            have hsc : scanSorted lt2 dk b i = i' := HX0.out.symm.trans (scanSorted_stop lt2 dk b i' (.inr hlv0))
            have hO := HO.out
            rw [show 5 - st = (4 - st) + 1 by omega, partialIns_succ, hsc, if_neg (by omega)] at hO
            by_cases h50 : b - a < 50
            · have h50' : decide ((b : Int) - a < 50) = true := by simp; omega
              rw [if_pos h50] at hO
              have HOO := Hid.lay hO.symm
              clear hO hsc
              go_wp2_with (go_at_call 31; refine (HJ0.out.cmp i' (i' - 1) rfl hi1.symm (by omega) (by omega) true hlv0).mono ?_; rintro e w2 ⟨rfl, HN⟩; clear b0)
              go_ret
              rw [HOO.out]
              exact ⟨rfl, HN.out.sr, HN.out.sz, HN.out.kp⟩
            · have h50' : decide ((b : Int) - a < 50) = false := by simp; omega
              rw [if_neg h50, show 4 - st = 5 - (st + 1) by omega] at hO
              have HE0 := Hid.lay hO
              clear hO hsc
              by_cases hdn : i' - a ≥ 2
              · by_cases hup : b - i' ≥ 2
                · have hdn' : decide ((i' : Int) - a ≥ 2) = true := by simp; omega
                  have hup' : decide ((b : Int) - i' ≥ 2) = true := by simp; omega
                  have HE := HE0
                  rw [show fixDown lt2 a i' (swp dk i' (i' - 1)) = shiftDown lt2 (i' - 1) (swp dk i' (i' - 1)) from if_pos hdn] at HE
                  simp only [show ∀ D : Array R3, fixUp lt2 b i' D = shiftUp lt2 b (i' + 1) D from fun D => if_pos hup] at HE
                  go_wp2_with (go_at_call 31; refine (HJ0.out.cmp i' (i' - 1) rfl hi1.symm (by omega) (by omega) true hlv0).mono ?_; rintro e w2 ⟨rfl, HN⟩; clear b0; have b1 := HN.out.b1; obtain ⟨hsw, HD⟩ := HN.out.swap hblk i' (i' - 1) (by omega) (by omega); rw [hi1] at hsw)
                  clear HE0 hdn' HJ0 HX0 HO
                  go_loopw [9] (fun vj wr2 => ∃ (j : Nat) (dj : Array R3), vj = .int .i64 j ∧ j ≤ i' - 1 ∧ Hid (In w wr2 blk Bs c n dj) ∧ Hid (shiftDown lt2 j dj = shiftDown lt2 (i' - 1) (swp dk i' (i' - 1)))) (fun vj _ => (intOf vj).toNat)
                  case atStart => exact ⟨i' - 1, _, by rw [hi1], Nat.le_refl _, HD, rfl⟩
                  case round =>
                    obtain ⟨j, dj, rfl, hji, HJ, HX⟩ := hrel
                    clear HD
                    have b0 := HJ.out.b0
                    by_cases hjlt : 1 ≤ j
                    · have hjlt' : decide ((j : Int) ≥ 1) = true := by simp; omega
                      have hj1 : ((j - 1 : Nat) : Int) = (j : Int) - 1 := by omega
                      cases hlv : lt2 dj[j]! dj[j - 1]! with
                      | true =>
                        go_wp2_with (go_at_call 31; refine (HJ.out.cmp j (j - 1) rfl hj1.symm (by omega) (by omega) true hlv).mono ?_; rintro e w3 ⟨rfl, HN3⟩; clear b0; have b1 := HN3.out.b1; obtain ⟨hsw, HS3⟩ := HN3.out.swap hblk j (j - 1) (by omega) (by omega); rw [hj1] at hsw)
                        refine ⟨⟨j - 1, _, by rw [hj1], by omega, HS3, (shiftDown_go lt2 j dj hjlt hlv).symm.trans HX.out⟩, by simp [intOf]; omega⟩
                      | false =>
                        have HZ := Hid.lay (HX.out.symm.trans (shiftDown_stop lt2 j dj (.inr hlv)))
                        rw [HZ.out] at HE
                        go_wp2_with (go_at_call 31; refine (HJ.out.cmp j (j - 1) rfl hj1.symm (by omega) (by omega) false hlv).mono ?_; rintro e w3 ⟨rfl, HD⟩; clear b0)
                        clear HX HZ HJ hlv hj1 hjlt'
                        go_loopw [10] (fun vj wr2 => ∃ (j : Nat) (du : Array R3), vj = .int .i64 j ∧ i' + 1 ≤ j ∧ j ≤ b ∧ Hid (In w wr2 blk Bs c n du) ∧ Hid (shiftUp lt2 b j du = shiftUp lt2 b (i' + 1) dj)) (fun vj _ => b - (intOf vj).toNat)
                        case atStart => exact ⟨i' + 1, _, by push_cast; rfl, Nat.le_refl _, by omega, HD, rfl⟩
                        case round =>
                          obtain ⟨j, du, rfl, hj0, hjb, HJ, HX⟩ := hrel
                          have b0 := HJ.out.b0
                          have hj1 : ((j - 1 : Nat) : Int) = (j : Int) - 1 := by omega
                          by_cases hjlt : j < b
                          · have hjlt' : decide ((j : Int) < b) = true := by simp; omega
                            cases hlv : lt2 du[j]! du[j - 1]! with
                            | true =>
                              go_wp2_with (go_at_call 31; refine (HJ.out.cmp j (j - 1) rfl hj1.symm (by omega) (by omega) true hlv).mono ?_; rintro e w3 ⟨rfl, HN3⟩; clear b0; have b1 := HN3.out.b1; obtain ⟨hsw, HS3⟩ := HN3.out.swap hblk j (j - 1) (by omega) (by omega); rw [hj1] at hsw)
                              refine ⟨⟨j + 1, _, by push_cast; rfl, by omega, by omega, HS3, (shiftUp_go lt2 b j du hjlt hlv).symm.trans HX.out⟩, by simp [intOf]; omega⟩
                            | false =>
                              have HZ := Hid.lay (HX.out.symm.trans (shiftUp_stop lt2 b j du (.inr hlv)))
                              rw [HZ.out] at HE
                              go_wp2_with (go_at_call 31; refine (HJ.out.cmp j (j - 1) rfl hj1.symm (by omega) (by omega) false hlv).mono ?_; rintro e w3 ⟨rfl, HN3⟩; clear b0)
                              refine ⟨⟨i', st + 1, _, rfl, by push_cast; rfl, by omega, by omega, by omega, HN3, HE.out⟩, by simp [intOf]; omega⟩
                          · have hjlt' : decide ((j : Int) < b) = false := by simp; omega
                            have HZ := Hid.lay (HX.out.symm.trans (shiftUp_stop lt2 b j du (.inl hjlt)))
                            rw [HZ.out] at HE
                            go_wp2_with fail
                            refine ⟨⟨i', st + 1, _, rfl, by push_cast; rfl, by omega, by omega, by omega, HJ, HE.out⟩, by simp [intOf]; omega⟩
                    · have hjlt' : decide ((j : Int) ≥ 1) = false := by simp; omega
                      have HZ := Hid.lay (HX.out.symm.trans (shiftDown_stop lt2 j dj (.inl (by omega))))
                      rw [HZ.out] at HE
                      have HD := HJ
                      go_wp2_with fail
                      clear HX HZ HJ b0 hjlt'
                      go_loopw [10] (fun vj wr2 => ∃ (j : Nat) (du : Array R3), vj = .int .i64 j ∧ i' + 1 ≤ j ∧ j ≤ b ∧ Hid (In w wr2 blk Bs c n du) ∧ Hid (shiftUp lt2 b j du = shiftUp lt2 b (i' + 1) dj)) (fun vj _ => b - (intOf vj).toNat)
                      case atStart => exact ⟨i' + 1, _, by push_cast; rfl, Nat.le_refl _, by omega, HD, rfl⟩
                      case round =>
                        obtain ⟨j, du, rfl, hj0, hjb, HJ, HX⟩ := hrel
                        have b0 := HJ.out.b0
                        have hj1 : ((j - 1 : Nat) : Int) = (j : Int) - 1 := by omega
                        by_cases hjlt : j < b
                        · have hjlt' : decide ((j : Int) < b) = true := by simp; omega
                          cases hlv : lt2 du[j]! du[j - 1]! with
                          | true =>
                            go_wp2_with (go_at_call 31; refine (HJ.out.cmp j (j - 1) rfl hj1.symm (by omega) (by omega) true hlv).mono ?_; rintro e w3 ⟨rfl, HN3⟩; clear b0; have b1 := HN3.out.b1; obtain ⟨hsw, HS3⟩ := HN3.out.swap hblk j (j - 1) (by omega) (by omega); rw [hj1] at hsw)
                            refine ⟨⟨j + 1, _, by push_cast; rfl, by omega, by omega, HS3, (shiftUp_go lt2 b j du hjlt hlv).symm.trans HX.out⟩, by simp [intOf]; omega⟩
                          | false =>
                            have HZ := Hid.lay (HX.out.symm.trans (shiftUp_stop lt2 b j du (.inr hlv)))
                            rw [HZ.out] at HE
                            go_wp2_with (go_at_call 31; refine (HJ.out.cmp j (j - 1) rfl hj1.symm (by omega) (by omega) false hlv).mono ?_; rintro e w3 ⟨rfl, HN3⟩; clear b0)
                            refine ⟨⟨i', st + 1, _, rfl, by push_cast; rfl, by omega, by omega, by omega, HN3, HE.out⟩, by simp [intOf]; omega⟩
                        · have hjlt' : decide ((j : Int) < b) = false := by simp; omega
                          have HZ := Hid.lay (HX.out.symm.trans (shiftUp_stop lt2 b j du (.inl hjlt)))
                          rw [HZ.out] at HE
                          go_wp2_with fail
                          refine ⟨⟨i', st + 1, _, rfl, by push_cast; rfl, by omega, by omega, by omega, HJ, HE.out⟩, by simp [intOf]; omega⟩
                · have hdn' : decide ((i' : Int) - a ≥ 2) = true := by simp; omega
                  have hup' : decide ((b : Int) - i' ≥ 2) = false := by simp; omega
                  have HE := HE0
                  rw [show fixDown lt2 a i' (swp dk i' (i' - 1)) = shiftDown lt2 (i' - 1) (swp dk i' (i' - 1)) from if_pos hdn] at HE
                  simp only [show ∀ D : Array R3, fixUp lt2 b i' D = D from fun D => if_neg hup] at HE
                  go_wp2_with (go_at_call 31; refine (HJ0.out.cmp i' (i' - 1) rfl hi1.symm (by omega) (by omega) true hlv0).mono ?_; rintro e w2 ⟨rfl, HN⟩; clear b0; have b1 := HN.out.b1; obtain ⟨hsw, HD⟩ := HN.out.swap hblk i' (i' - 1) (by omega) (by omega); rw [hi1] at hsw)
                  clear HE0 hdn' HJ0 HX0 HO
                  go_loopw [9] (fun vj wr2 => ∃ (j : Nat) (dj : Array R3), vj = .int .i64 j ∧ j ≤ i' - 1 ∧ Hid (In w wr2 blk Bs c n dj) ∧ Hid (shiftDown lt2 j dj = shiftDown lt2 (i' - 1) (swp dk i' (i' - 1)))) (fun vj _ => (intOf vj).toNat)
                  case atStart => exact ⟨i' - 1, _, by rw [hi1], Nat.le_refl _, HD, rfl⟩
                  case round =>
                    obtain ⟨j, dj, rfl, hji, HJ, HX⟩ := hrel
                    clear HD
                    have b0 := HJ.out.b0
                    by_cases hjlt : 1 ≤ j
                    · have hjlt' : decide ((j : Int) ≥ 1) = true := by simp; omega
                      have hj1 : ((j - 1 : Nat) : Int) = (j : Int) - 1 := by omega
                      cases hlv : lt2 dj[j]! dj[j - 1]! with
                      | true =>
                        go_wp2_with (go_at_call 31; refine (HJ.out.cmp j (j - 1) rfl hj1.symm (by omega) (by omega) true hlv).mono ?_; rintro e w3 ⟨rfl, HN3⟩; clear b0; have b1 := HN3.out.b1; obtain ⟨hsw, HS3⟩ := HN3.out.swap hblk j (j - 1) (by omega) (by omega); rw [hj1] at hsw)
                        refine ⟨⟨j - 1, _, by rw [hj1], by omega, HS3, (shiftDown_go lt2 j dj hjlt hlv).symm.trans HX.out⟩, by simp [intOf]; omega⟩
                      | false =>
                        have HZ := Hid.lay (HX.out.symm.trans (shiftDown_stop lt2 j dj (.inr hlv)))
                        rw [HZ.out] at HE
                        go_wp2_with (go_at_call 31; refine (HJ.out.cmp j (j - 1) rfl hj1.symm (by omega) (by omega) false hlv).mono ?_; rintro e w3 ⟨rfl, HD⟩; clear b0)
                        clear HX HZ HJ hlv hj1 hjlt'
                        refine ⟨⟨i', st + 1, _, rfl, by push_cast; rfl, by omega, by omega, by omega, HD, HE.out⟩, by simp [intOf]; omega⟩
                    · have hjlt' : decide ((j : Int) ≥ 1) = false := by simp; omega
                      have HZ := Hid.lay (HX.out.symm.trans (shiftDown_stop lt2 j dj (.inl (by omega))))
                      rw [HZ.out] at HE
                      have HD := HJ
                      go_wp2_with fail
                      clear HX HZ HJ b0 hjlt'
                      refine ⟨⟨i', st + 1, _, rfl, by push_cast; rfl, by omega, by omega, by omega, HD, HE.out⟩, by simp [intOf]; omega⟩
              · by_cases hup : b - i' ≥ 2
                · have hdn' : decide ((i' : Int) - a ≥ 2) = false := by simp; omega
                  have hup' : decide ((b : Int) - i' ≥ 2) = true := by simp; omega
                  have HE := HE0
                  rw [show fixDown lt2 a i' (swp dk i' (i' - 1)) = swp dk i' (i' - 1) from if_neg hdn] at HE
                  simp only [show ∀ D : Array R3, fixUp lt2 b i' D = shiftUp lt2 b (i' + 1) D from fun D => if_pos hup] at HE
                  go_wp2_with (go_at_call 31; refine (HJ0.out.cmp i' (i' - 1) rfl hi1.symm (by omega) (by omega) true hlv0).mono ?_; rintro e w2 ⟨rfl, HN⟩; clear b0; have b1 := HN.out.b1; obtain ⟨hsw, HD⟩ := HN.out.swap hblk i' (i' - 1) (by omega) (by omega); rw [hi1] at hsw)
                  clear HE0 hdn' HJ0 HX0 HO
                  go_loopw [10] (fun vj wr2 => ∃ (j : Nat) (du : Array R3), vj = .int .i64 j ∧ i' + 1 ≤ j ∧ j ≤ b ∧ Hid (In w wr2 blk Bs c n du) ∧ Hid (shiftUp lt2 b j du = shiftUp lt2 b (i' + 1) (swp dk i' (i' - 1)))) (fun vj _ => b - (intOf vj).toNat)
                  case atStart => exact ⟨i' + 1, _, by push_cast; rfl, Nat.le_refl _, by omega, HD, rfl⟩
                  case round =>
                    obtain ⟨j, du, rfl, hj0, hjb, HJ, HX⟩ := hrel
                    have b0 := HJ.out.b0
                    have hj1 : ((j - 1 : Nat) : Int) = (j : Int) - 1 := by omega
                    by_cases hjlt : j < b
                    · have hjlt' : decide ((j : Int) < b) = true := by simp; omega
                      cases hlv : lt2 du[j]! du[j - 1]! with
                      | true =>
                        go_wp2_with (go_at_call 31; refine (HJ.out.cmp j (j - 1) rfl hj1.symm (by omega) (by omega) true hlv).mono ?_; rintro e w3 ⟨rfl, HN3⟩; clear b0; have b1 := HN3.out.b1; obtain ⟨hsw, HS3⟩ := HN3.out.swap hblk j (j - 1) (by omega) (by omega); rw [hj1] at hsw)
                        refine ⟨⟨j + 1, _, by push_cast; rfl, by omega, by omega, HS3, (shiftUp_go lt2 b j du hjlt hlv).symm.trans HX.out⟩, by simp [intOf]; omega⟩
                      | false =>
                        have HZ := Hid.lay (HX.out.symm.trans (shiftUp_stop lt2 b j du (.inr hlv)))
                        rw [HZ.out] at HE
                        go_wp2_with (go_at_call 31; refine (HJ.out.cmp j (j - 1) rfl hj1.symm (by omega) (by omega) false hlv).mono ?_; rintro e w3 ⟨rfl, HN3⟩; clear b0)
                        refine ⟨⟨i', st + 1, _, rfl, by push_cast; rfl, by omega, by omega, by omega, HN3, HE.out⟩, by simp [intOf]; omega⟩
                    · have hjlt' : decide ((j : Int) < b) = false := by simp; omega
                      have HZ := Hid.lay (HX.out.symm.trans (shiftUp_stop lt2 b j du (.inl hjlt)))
                      rw [HZ.out] at HE
                      go_wp2_with fail
                      refine ⟨⟨i', st + 1, _, rfl, by push_cast; rfl, by omega, by omega, by omega, HJ, HE.out⟩, by simp [intOf]; omega⟩
                · omega
        · have hlt' : decide ((i' : Int) < b) = false := by simp; omega
          have hne' : ((i' : Int) == b) = true := by rw [beq_iff_eq]; omega
          have hsc : scanSorted lt2 dk b i = b := by
            rw [← HX0.out, scanSorted_stop lt2 dk b i' (.inl hlt)]
            omega
          have hO := HO.out
          rw [show 5 - st = (4 - st) + 1 by omega, partialIns_succ, if_pos hsc] at hO
          have HOO := Hid.lay hO.symm
          clear hO hsc
          go_wp2_with fail
          go_ret
          rw [HOO.out]
          exact ⟨rfl, HJ0.out.sr, HJ0.out.sz, HJ0.out.kp⟩
    · have hs5' : decide ((st : Int) < 5) = false := by simp; omega
      have hO := HO.out
      rw [show 5 - st = 0 by omega] at hO
      have HOO := Hid.lay hO.symm
      clear hO
      go_wp2_with fail
      go_ret
      rw [HOO.out]
      exact ⟨rfl, HK.out.sr, HK.out.sz, HK.out.kp⟩
end Go.Proofs.Qxb6609202aDoor.Wr
