/-
  sort.pdqsort_func (41), over the closure that lays blocks.
-/
import Derived.Test.Qxb6609202aDoorHeap2
import Derived.Test.Qxb6609202aDoorPivot2
import Derived.Test.Qxb6609202aDoorBrk
import Derived.Test.Qxb6609202aDoorSwo
import Derived.Test.Qxb6609202aDoorPins
import Derived.Test.Qxb6609202aDoorPart
import Derived.Sort.Walk13a
import Derived.Sort.AssemblyPlain
import Derived.Deep.CutRange
import Derived.Test.Qxb6609202aDoorPdqLaw
namespace Go.Proofs.Qxb6609202aDoor.Wr
open Go.RowKit Go.Lib Go.Sort

set_option maxHeartbeats 80000000 in
set_option maxRecDepth 100000 in
theorem pdq_all (blk Bs c n : Nat) (hsz : n < 1073741824) : ∀ (N a b limit : Nat) (d : Array R3) (w : World), b - a < N → Hid (SR w blk Bs c d) → d.size = n → a ≤ b → b ≤ n → limit < 1073741824 → Go.Sort.Below lt2 a b d →
    Calls Tryd.prog 41 #[.agg #[.func (.func 31) #[] #[.pointer (some ⟨Bs, 0, none⟩)], .func (.func 53) #[] #[.slice (some ⟨blk, 0, none⟩) n c, TH]], .int .i64 a, .int .i64 b, .int .i64 limit] w fun e w' =>
      e = .returned (.tuple #[]) ∧ SR w' blk Bs c (pdq lt2 d a b limit true true) ∧ (pdq lt2 d a b limit true true).size = n ∧ Kp (fun k => k = blk) w w' := by
  intro N
  induction N with
  | zero => intro _ _ _ _ _ h; exact absurd h (Nat.not_lt_zero _)
  | succ N ih =>
    intro a b limit d w hN hs hn hab hbn hlim hBel
    have HI := Hid.lay (In.start hs.out hn)
    have hblk := hs.out.lt
    have IH := Hid.lay ih
    have HB0 := Hid.lay hBel
    clear ih hBel
    generalize hRd : pdq lt2 d a b limit true true = R
    have HR := Hid.lay hRd
    clear hRd
    go_enter Tryd.func41, Tryd.ntmps41
    go_wp2_with fail
    go_loopg [1, 2, 3, 8, 9] (b - a) (fun kx s1 s2 s3 s8 s9 wr => ∃ (a' b' lim : Nat) (wb wp : Bool) (dk : Array R3), s1 = .int .i64 a' ∧ s2 = .int .i64 b' ∧ s3 = .int .i64 lim ∧ s8 = .bool wb ∧ s9 = .bool wp ∧
      a' ≤ b' ∧ b' ≤ n ∧ b' - a' ≤ kx ∧ kx ≤ b - a ∧ lim ≤ limit ∧ Hid (Go.Sort.Below lt2 a' b' dk) ∧ Hid (In w wr blk Bs c n dk) ∧ Hid (pdq lt2 dk a' b' lim wb wp = R))
    case atStart => exact ⟨a, b, limit, true, true, d, rfl, rfl, rfl, rfl, rfl, hab, hbn, Nat.le_refl _, Nat.le_refl _, Nat.le_refl _, HB0, HI, HR.out⟩
    case round =>
      obtain ⟨a', b', lim, wb, wp, dk, rfl, rfl, rfl, rfl, rfl, hab', hb', hkx, hkN, hlim', HB, HK, HQ⟩ := hrel
      have b0 := HK.out.b0
      have b1 := HK.out.b1
      by_cases h12 : b' - a' ≤ 12
      · have h12' : decide ((b' : Int) - a' ≤ 12) = true := by simp; omega
        go_wp2_with (go_at_call 56; refine (ins_any _ blk Bs c n a' b' dk (Hid.lay HK.out.sr) HK.out.sz hab' hb' (by omega)).mono ?_; rintro e w2 ⟨rfl, s2, z2, k2⟩; replace HN := Hid.lay (HK.out.step hblk s2 z2 k2); clear s2 z2 k2 b0 b1)
        refine bodyPost_ret (results_none rfl _ _ _) rfl ?_
        have e := HQ.out
        rw [pdq_small h12] at e
        rw [← e]
        exact ⟨rfl, HN.out.sr, HN.out.sz, HN.out.kp⟩
      · have h12' : decide ((b' : Int) - a' ≤ 12) = false := by simp; omega
        obtain ⟨L, rfl⟩ : ∃ L, b' = a' + L := ⟨b' - a', by omega⟩
        by_cases hl0 : lim = 0
        · have hl0' : ((lim : Int) == 0) = true := by rw [beq_iff_eq]; omega
          push_cast at *
          go_wp2_with (go_at_call 57; refine (heap_any _ blk Bs c n a' L dk (Hid.lay HK.out.sr) HK.out.sz (by omega) hb' hsz).mono ?_; rintro e w2 ⟨rfl, s2, z2, k2⟩; replace HN := Hid.lay (HK.out.step hblk s2 z2 k2); clear s2 z2 k2 b0 b1)
          refine bodyPost_ret (results_none rfl _ _ _) rfl ?_
          have e := HQ.out
          rw [pdq_heap h12 hl0] at e
          rw [← e]
          exact ⟨rfl, HN.out.sr, HN.out.sz, HN.out.kp⟩
        · have hl0' : ((lim : Int) == 0) = false := by rw [beq_eq_false_iff_ne]; omega
          obtain ⟨f1, f2, f3, f4, f5, f6, f7, f8⟩ := rd_facts (limit := lim) (wb := wb) (wp := wp) swo_lt2 partialInsertionSort_holds reverseRange_holds (by omega : a' < a' + L) (by rw [HK.out.sz]; exact hb') HB.out
          go_upto_if 35 with fail
          go_cut [3] from 19 to 129 (fun s3 wx => s3 = .int .i64 (rd lt2 dk a' (a' + L) lim wb wp).lim ∧ Hid (In w wx blk Bs c n (rd lt2 dk a' (a' + L) lim wb wp).d1))
          case first =>
            cases wb with
            | true =>
              go_wp2_with fail
              go_meet
              case rel => exact ⟨rfl, HK⟩
            | false =>
              go_wp2_with (go_at_call 58; refine (break_any _ blk Bs c n a' (a' + L) dk HK.out.sr HK.out.sz (f1.trans HK.out.sz) (by omega) hb' hsz).mono ?_; rintro e w2 ⟨rfl, s2, k2⟩; replace HN := Hid.lay (HK.out.step hblk s2 (f1.trans HK.out.sz) k2); clear s2 k2 b0 b1)
              go_meet
              case rel => exact ⟨by rw [rd_false.2]; go_num, HN⟩
          case rest =>
            clear b0 b1
            obtain ⟨rfl, HK1⟩ := hcut
            have b0 := HK1.out.b0
            have b1 := HK1.out.b1
            have HP := Hid.lay (fun W h => pivot_any W blk Bs c n a' L (L / 4) (rd lt2 dk a' (a' + L) lim wb wp).d1 h (f1.trans HK.out.sz) (by omega) rfl hb' hsz)
            rw [show ((a' : Int) + (L : Int)) = ((a' + L : Nat) : Int) by push_cast; rfl, ← rd_c] at HP
            go_upto_if 50 with (go_at_call 59; refine (HP.out _ (Hid.lay HK1.out.sr)).mono ?_; rintro e w3 ⟨rfl, s3, k3⟩; replace HK2 := Hid.lay (HK1.out.less k3); clear s3 k3 b0 b1; have b0 := HK2.out.b0; have b1 := HK2.out.b1)
            go_cut [11, 12] from 19 to 129 (fun s11 s12 wx => s11 = .int .i64 (rd lt2 dk a' (a' + L) lim wb wp).pivot ∧ s12 = .int .i64 (hcode (rd lt2 dk a' (a' + L) lim wb wp).hint) ∧ Hid (In w wx blk Bs c n (rd lt2 dk a' (a' + L) lim wb wp).d2))
            case first =>
              by_cases hh : (rd lt2 dk a' (a' + L) lim wb wp).c.2 = .decreasing
              · obtain ⟨g1, g2, g3⟩ := rd_dec hh
                have hh' : (hcode (rd lt2 dk a' (a' + L) lim wb wp).c.2 == 2) = true := by rw [hh]; rfl
                have HRV := Hid.lay (reverse_any _ blk Bs c n a' (a' + L) _ HK2.out.sr HK2.out.sz (by rw [← g1]; exact f4.trans HK.out.sz) (by omega) hb' hsz)
                rw [← g1] at HRV
                have hpv : (((a' + L : Nat) : Int) - 1 - (((rd lt2 dk a' (a' + L) lim wb wp).c.1 : Int) - a')) = ((rd lt2 dk a' (a' + L) lim wb wp).pivot : Int) := by rw [g2]; omega
                go_wp2_with (go_at_call 60; refine HRV.out.mono ?_; rintro e w4 ⟨rfl, s4, k4⟩; replace HN := Hid.lay (HK2.out.step hblk s4 (f4.trans HK.out.sz) k4); clear s4 k4 b0 b1)
                go_meet
                case rel => exact ⟨by rw [← hpv]; go_num, by rw [g3]; rfl, HN⟩
              · obtain ⟨g1, g2, g3⟩ := rd_not hh
                have hh' : (hcode (rd lt2 dk a' (a' + L) lim wb wp).c.2 == 2) = false := by
                  cases e : (rd lt2 dk a' (a' + L) lim wb wp).c.2 with
                  | unknown => rfl
                  | increasing => rfl
                  | decreasing => exact absurd e hh
                go_wp2_with fail
                go_meet
                case rel => exact ⟨by rw [g2], by rw [g3], by rw [g1]; exact HK2⟩
            case rest =>
              clear b0 b1
              obtain ⟨rfl, rfl, HK3⟩ := hcut
              have b0 := HK3.out.b0
              have b1 := HK3.out.b1
              have hhi : (hcode (rd lt2 dk a' (a' + L) lim wb wp).hint == 1) = decide ((rd lt2 dk a' (a' + L) lim wb wp).hint = .increasing) := by
                cases (rd lt2 dk a' (a' + L) lim wb wp).hint <;> rfl
              go_upto_region 16 with fail
              go_cut [68] from 19 to 129 (fun s68 wx => s68 = .bool (wb && wp && decide ((rd lt2 dk a' (a' + L) lim wb wp).hint = .increasing)) ∧ wx = wc)
              case first =>
                cases wb <;> cases wp <;> (go_wp2_with fail; go_meet; case rel => exact ⟨by simp, rfl⟩)
              case rest =>
                obtain ⟨rfl, rfl⟩ := hcut
                go_upto_if 68 with fail
                go_cut [] from 19 to 129 (fun wx => (rd lt2 dk a' (a' + L) lim wb wp).pi.2 = false ∧ Hid (In w wx blk Bs c n (rd lt2 dk a' (a' + L) lim wb wp).pi.1))
                case first =>
                  cases hc : (wb && wp && decide ((rd lt2 dk a' (a' + L) lim wb wp).hint = .increasing)) with
                  | false =>
                    have g := rd_pi_no hc
                    go_wp2_with fail
                    go_meet
                    case rel => exact ⟨by rw [g], by rw [g]; exact HK3⟩
                  | true =>
                    have g := rd_pi_yes hc
                    have HPI := Hid.lay (pins_any _ blk Bs c n a' (a' + L) _ (Hid.lay HK3.out.sr) HK3.out.sz (by omega) hb' hsz)
                    rw [← g] at HPI
                    cases hpi : (rd lt2 dk a' (a' + L) lim wb wp).pi.2 with
                    | true =>
                      rw [hpi] at HPI
                      go_wp2_with (go_at_call 61; refine HPI.out.mono ?_; rintro e w5 ⟨rfl, s5, z5, k5⟩; replace HN := Hid.lay (HK3.out.step hblk s5 z5 k5); clear s5 z5 k5 b0 b1)
                      refine bodyPost_ret (results_none rfl _ _ _) rfl ?_
                      have e := HQ.out
                      rw [pdq_done h12 hl0 hpi] at e
                      rw [← e]
                      exact ⟨rfl, HN.out.sr, HN.out.sz, HN.out.kp⟩
                    | false =>
                      rw [hpi] at HPI
                      go_wp2_with (go_at_call 61; refine HPI.out.mono ?_; rintro e w5 ⟨rfl, s5, z5, k5⟩; replace HN := Hid.lay (HK3.out.step hblk s5 z5 k5); clear s5 z5 k5 b0 b1)
                      go_meet
                      case rel => exact ⟨hpi, HN⟩
                case rest =>
                  clear b0 b1
                  obtain ⟨hpi, HK4⟩ := hcut
                  have b0 := HK4.out.b0
                  have b1 := HK4.out.b1
                  have hbs : a' + L ≤ dk.size := by rw [HK.out.sz]; exact hb'
                  have hlimr : (rd lt2 dk a' (a' + L) lim wb wp).lim ≤ lim := rd_lim_le
                  by_cases hnl : 0 < a' ∧ lt2 (rd lt2 dk a' (a' + L) lim wb wp).pi.1[a' - 1]! (rd lt2 dk a' (a' + L) lim wb wp).pi.1[(rd lt2 dk a' (a' + L) lim wb wp).pivot]! = false
                  · obtain ⟨ha0, hnl⟩ := hnl
                    have ha0' : decide ((0 : Int) < a') = true := by simp; omega
                    have HS := Hid.lay (step_eq h12 hl0 hbs HB.out hpi ha0 hnl _ rfl)
                    have HPE := Hid.lay (fun W h => parteq_any W blk Bs c n a' (a' + L) (rd lt2 dk a' (a' + L) lim wb wp).pivot (rd lt2 dk a' (a' + L) lim wb wp).pi.1 h HK4.out.sz f6.1 f6.2 hb' hsz)
                    generalize partitionEqual lt2 (rd lt2 dk a' (a' + L) lim wb wp).pi.1 a' (a' + L) (rd lt2 dk a' (a' + L) lim wb wp).pivot = P at HS HPE
                    obtain ⟨m, d4⟩ := P
                    obtain ⟨g1, g2, g3, g4, g5⟩ := HS.out
                    have HB2 := Hid.lay g4
                    have HQ2 := Hid.lay (g5.symm.trans HQ.out)
                    clear g4 g5 HS
                    dsimp only at *
                    go_wp2_with (first
                      | (go_at_call 31; refine (HK4.out.cmp (a' - 1) (rd lt2 dk a' (a' + L) lim wb wp).pivot (by omega) rfl (by omega) (by omega) false hnl).mono ?_; rintro e w5 ⟨rfl, HJ⟩; clear b0 b1; have b0 := HJ.out.b0; have b1 := HJ.out.b1)
                      | (go_at_call 62; refine (HPE.out _ (Hid.lay HJ.out.sr)).mono ?_; rintro e w6 ⟨rfl, s6, z6, k6⟩; replace HN := Hid.lay (HJ.out.step hblk s6 z6 k6); clear s6 z6 k6 b0 b1))
                    go_roundg (a' + L - m)
                    case measure => omega
                    case rel => exact ⟨m, a' + L, _, wb, wp, d4, rfl, rfl, rfl, rfl, rfl, g2, hb', Nat.le_refl _, by omega, by omega, HB2, HN, HQ2⟩
                  · have hnl2 : a' = 0 ∨ lt2 (rd lt2 dk a' (a' + L) lim wb wp).pi.1[a' - 1]! (rd lt2 dk a' (a' + L) lim wb wp).pi.1[(rd lt2 dk a' (a' + L) lim wb wp).pivot]! = true := by
                      rcases Nat.eq_zero_or_pos a' with h | h
                      · exact .inl h
                      · refine .inr ?_
                        cases e : lt2 (rd lt2 dk a' (a' + L) lim wb wp).pi.1[a' - 1]! (rd lt2 dk a' (a' + L) lim wb wp).pi.1[(rd lt2 dk a' (a' + L) lim wb wp).pivot]! with
                        | true => rfl
                        | false => exact absurd ⟨h, e⟩ hnl
                    have HS := Hid.lay (step_part h12 hl0 hbs HB.out hpi hnl2 _ rfl)
                    have HPT := Hid.lay (fun W h => part_any W blk Bs c n a' (a' + L) (rd lt2 dk a' (a' + L) lim wb wp).pivot (rd lt2 dk a' (a' + L) lim wb wp).pi.1 h HK4.out.sz f6.1 f6.2 hb' hsz)
                    generalize partition lt2 (rd lt2 dk a' (a' + L) lim wb wp).pi.1 a' (a' + L) (rd lt2 dk a' (a' + L) lim wb wp).pivot = P at HS HPT
                    obtain ⟨m, ap, d4⟩ := P
                    obtain ⟨g1, g2, g3, g4, g5, g6, g7⟩ := HS.out
                    dsimp only at *
                    have HB4 := Hid.lay g4
                    have HB5 := Hid.lay g5
                    have HS6 := Hid.lay g6
                    have HS7 := Hid.lay g7
                    clear g4 g5 g6 g7 HS
                    have hd4 : d4.size = n := g3.trans HK.out.sz
                    have HIH := Hid.lay (fun (x y : Nat) (W : World) (h1 : y - x < N) (h2 : Hid (SR W blk Bs c d4)) (h3 : x ≤ y) (h4 : y ≤ n) (h5 : Go.Sort.Below lt2 x y d4) => IH.out x y (rd lt2 dk a' (a' + L) lim wb wp).lim d4 W h1 h2 hd4 h3 h4 (by omega) h5)
                    by_cases hlt : m - a' < a' + L - m
                    · have hlt' : decide ((m : Int) - a' < (a' : Int) + L - m) = true := by simp; omega
                      obtain ⟨p1, p2⟩ := HS6.out hlt
                      replace HIH := Hid.lay (fun W h => HIH.out a' m W (by omega) h g1 (by omega) HB4.out)
                      generalize pdq lt2 d4 a' m (rd lt2 dk a' (a' + L) lim wb wp).lim true true = d5 at p1 p2 HIH
                      have HB2 := Hid.lay p1
                      have HQ2 := Hid.lay (p2.symm.trans HQ.out)
                      clear p1 p2
                      rcases Nat.eq_zero_or_pos a' with hz | ha0
                      · have hz' : ¬ 0 < a' := by omega
                        have ha0' : decide ((0 : Int) < a') = false := by simp; omega
                        clear hz hnl hnl2
                        go_wp2_with (first
                          | (go_at_call 63; refine (HPT.out _ (Hid.lay HK4.out.sr)).mono ?_; rintro e w6 ⟨rfl, s6, z6, k6⟩; replace HN := Hid.lay (HK4.out.step hblk s6 z6 k6); clear s6 z6 k6 b0 b1; have b0 := HN.out.b0; have b1 := HN.out.b1)
                          | (go_at_call 41; refine (HIH.out _ (Hid.lay HN.out.sr)).mono ?_; rintro e w7 ⟨rfl, s7, z7, k7⟩; replace HM := Hid.lay (HN.out.step hblk s7 z7 k7); clear s7 z7 k7 b0 b1))
                        go_roundg (a' + L - (m + 1))
                        case measure => omega
                        case rel => exact ⟨m + 1, a' + L, _, _, ap, d5, rfl, rfl, rfl, by congr 1; exact decide_eq_decide.2 (by omega), rfl, by omega, hb', Nat.le_refl _, by omega, by omega, HB2, HM, HQ2⟩
                      · have ha0' : decide ((0 : Int) < a') = true := by simp; omega
                        have hl := hnl2.resolve_left (by omega)
                        clear hnl hnl2
                        go_wp2_with (first
                          | (go_at_call 31; refine (HK4.out.cmp (a' - 1) (rd lt2 dk a' (a' + L) lim wb wp).pivot (by omega) rfl (by omega) (by omega) true hl).mono ?_; rintro e w5 ⟨rfl, HJ⟩; clear b0 b1; have b0 := HJ.out.b0; have b1 := HJ.out.b1)
                          | (go_at_call 63; refine (HPT.out _ (Hid.lay HJ.out.sr)).mono ?_; rintro e w6 ⟨rfl, s6, z6, k6⟩; replace HN := Hid.lay (HJ.out.step hblk s6 z6 k6); clear s6 z6 k6 b0 b1; have b0 := HN.out.b0; have b1 := HN.out.b1)
                          | (go_at_call 41; refine (HIH.out _ (Hid.lay HN.out.sr)).mono ?_; rintro e w7 ⟨rfl, s7, z7, k7⟩; replace HM := Hid.lay (HN.out.step hblk s7 z7 k7); clear s7 z7 k7 b0 b1))
                        go_roundg (a' + L - (m + 1))
                        case measure => omega
                        case rel => exact ⟨m + 1, a' + L, _, _, ap, d5, rfl, rfl, rfl, by congr 1; exact decide_eq_decide.2 (by omega), rfl, by omega, hb', Nat.le_refl _, by omega, by omega, HB2, HM, HQ2⟩
                    · have hlt' : decide ((m : Int) - a' < (a' : Int) + L - m) = false := by simp; omega
                      obtain ⟨p1, p2⟩ := HS7.out hlt
                      replace HIH := Hid.lay (fun W h => HIH.out (m + 1) (a' + L) W (by omega) h (by omega) hb' HB5.out)
                      generalize pdq lt2 d4 (m + 1) (a' + L) (rd lt2 dk a' (a' + L) lim wb wp).lim true true = d5 at p1 p2 HIH
                      have HB2 := Hid.lay p1
                      have HQ2 := Hid.lay (p2.symm.trans HQ.out)
                      clear p1 p2
                      rcases Nat.eq_zero_or_pos a' with hz | ha0
                      · have hz' : ¬ 0 < a' := by omega
                        have ha0' : decide ((0 : Int) < a') = false := by simp; omega
                        clear hz hnl hnl2
                        go_wp2_with (first
                          | (go_at_call 63; refine (HPT.out _ (Hid.lay HK4.out.sr)).mono ?_; rintro e w6 ⟨rfl, s6, z6, k6⟩; replace HN := Hid.lay (HK4.out.step hblk s6 z6 k6); clear s6 z6 k6 b0 b1; have b0 := HN.out.b0; have b1 := HN.out.b1)
                          | (go_at_call 41; refine (HIH.out _ (Hid.lay HN.out.sr)).mono ?_; rintro e w7 ⟨rfl, s7, z7, k7⟩; replace HM := Hid.lay (HN.out.step hblk s7 z7 k7); clear s7 z7 k7 b0 b1))
                        go_roundg (m - a')
                        case measure => omega
                        case rel => exact ⟨a', m, _, _, ap, d5, rfl, rfl, rfl, by congr 1; exact decide_eq_decide.2 (by omega), rfl, by omega, by omega, Nat.le_refl _, by omega, by omega, HB2, HM, HQ2⟩
                      · have ha0' : decide ((0 : Int) < a') = true := by simp; omega
                        have hl := hnl2.resolve_left (by omega)
                        clear hnl hnl2
                        go_wp2_with (first
                          | (go_at_call 31; refine (HK4.out.cmp (a' - 1) (rd lt2 dk a' (a' + L) lim wb wp).pivot (by omega) rfl (by omega) (by omega) true hl).mono ?_; rintro e w5 ⟨rfl, HJ⟩; clear b0 b1; have b0 := HJ.out.b0; have b1 := HJ.out.b1)
                          | (go_at_call 63; refine (HPT.out _ (Hid.lay HJ.out.sr)).mono ?_; rintro e w6 ⟨rfl, s6, z6, k6⟩; replace HN := Hid.lay (HJ.out.step hblk s6 z6 k6); clear s6 z6 k6 b0 b1; have b0 := HN.out.b0; have b1 := HN.out.b1)
                          | (go_at_call 41; refine (HIH.out _ (Hid.lay HN.out.sr)).mono ?_; rintro e w7 ⟨rfl, s7, z7, k7⟩; replace HM := Hid.lay (HN.out.step hblk s7 z7 k7); clear s7 z7 k7 b0 b1))
                        go_roundg (m - a')
                        case measure => omega
                        case rel => exact ⟨a', m, _, _, ap, d5, rfl, rfl, rfl, by congr 1; exact decide_eq_decide.2 (by omega), rfl, by omega, by omega, Nat.le_refl _, by omega, by omega, HB2, HM, HQ2⟩
end Go.Proofs.Qxb6609202aDoor.Wr
