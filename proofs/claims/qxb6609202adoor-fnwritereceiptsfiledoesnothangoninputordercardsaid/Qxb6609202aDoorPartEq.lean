/-
  sort.partitionEqual_func (62), over the closure that lays blocks.
-/
import Derived.Test.Qxb6609202aDoorHeap2
import Derived.Sort.WalkC4
namespace Go.Proofs.Qxb6609202aDoor.Wr
open Go.RowKit Go.Lib Go.Sort

set_option maxHeartbeats 6400000 in
set_option maxRecDepth 100000 in
theorem parteq_any (w : World) (blk Bs c n a b pivot : Nat) (d : Array R3) (hs : Hid (SR w blk Bs c d)) (hn : d.size = n) (hap : a ≤ pivot) (hpb : pivot < b) (hbn : b ≤ n) (hsz : n < 1073741824) :
    Calls Tryd.prog 62 #[.agg #[.func (.func 31) #[] #[.pointer (some ⟨Bs, 0, none⟩)], .func (.func 53) #[] #[.slice (some ⟨blk, 0, none⟩) n c, TH]], .int .i64 a, .int .i64 b, .int .i64 pivot] w fun e w' =>
      e = .returned (.int .i64 (Sort.partitionEqual lt2 d a b pivot).1) ∧ SR w' blk Bs c (Sort.partitionEqual lt2 d a b pivot).2 ∧ (Sort.partitionEqual lt2 d a b pivot).2.size = n ∧ Kp (fun k => k = blk) w w' := by
  have HI := Hid.lay (In.start hs.out hn)
  have hblk := hs.out.lt
  have b1 := HI.out.b1
  obtain ⟨hsw, HS⟩ := HI.out.swap hblk a pivot (by omega) (by omega)
  have HE : Hid (Sort.partitionEqual lt2 d a b pivot = partEqLoop lt2 a (a + 1) (b - 1) (swp d a pivot)) := rfl
  generalize Sort.partitionEqual lt2 d a b pivot = R at HE ⊢
  go_enter Tryd.func62, Tryd.ntmps62
  go_wp2_with fail
  clear b1 hsw
  have hb1 : ((b : Int) - 1) = ((b - 1 : Nat) : Int) := by omega
  go_loopw [9, 10] (fun vi vj wr => ∃ (i j : Nat) (dk : Array R3), vi = .int .i64 i ∧ vj = .int .i64 j ∧ a < i ∧ i ≤ j + 1 ∧ j < b ∧ Hid (In w wr blk Bs c n dk) ∧ Hid (partEqLoop lt2 a i j dk = R)) (fun vi vj _ => (intOf vj + 1 - intOf vi).toNat)
  case atStart => exact ⟨a + 1, b - 1, _, by push_cast; rfl, by rw [← hb1], by omega, by omega, by omega, HS, HE.out.symm⟩
  case round =>
    clear hb1
    obtain ⟨i, j, dk, rfl, rfl, hai, hij, hjb, HK, HO⟩ := hrel
    go_wp2_with fail
    go_loopw [9] (fun vi w1 => ∃ (i' : Nat), vi = .int .i64 i' ∧ i ≤ i' ∧ i' ≤ j + 1 ∧ Hid (In w w1 blk Bs c n dk) ∧ Hid (scanUp (fun x => !lt2 dk[a]! x) dk j i' = scanUp (fun x => !lt2 dk[a]! x) dk j i)) (fun vi _ => j + 1 - (intOf vi).toNat)
    case atStart => exact ⟨i, rfl, Nat.le_refl _, hij, HK, rfl⟩
    case round =>
      obtain ⟨i', rfl, hii, hij', HJ, HX⟩ := hrel
      have b0 := HJ.out.b0
      by_cases hle : i' ≤ j
      · have hle' : decide ((i' : Int) ≤ j) = true := by simp; omega
        cases hlv : lt2 dk[a]! dk[i']! with
        | false =>
          go_wp2_with (go_at_call 31; refine (HJ.out.cmp a i' rfl rfl (by omega) (by omega) false hlv).mono ?_; rintro e w2 ⟨rfl, HN⟩; clear b0)
          refine ⟨⟨i' + 1, by push_cast; rfl, by omega, by omega, HN, ?_⟩, by simp [intOf]; omega⟩
          show _ = _
          rw [← HX.out]
          exact (scanUp_go _ dk j i' hle (by simp [hlv])).symm
        | true =>
          go_wp2_with (go_at_call 31; refine (HJ.out.cmp a i' rfl rfl (by omega) (by omega) true hlv).mono ?_; rintro e w2 ⟨rfl, HN⟩; clear b0)
          have hi2 : i' = scanUp (fun x => !lt2 dk[a]! x) dk j i := by
            show _ = _
            rw [← HX.out]
            exact (scanUp_end _ dk j i' (.inr (by simp [hlv]))).symm
          have HI2 := Hid.lay hi2
          clear hi2
          go_loopw [10] (fun vj w2 => ∃ (j' : Nat), vj = .int .i64 j' ∧ j' ≤ j ∧ i' ≤ j' + 1 ∧ Hid (In w w2 blk Bs c n dk) ∧ Hid (scanDown (fun x => lt2 dk[a]! x) dk i' j' = scanDown (fun x => lt2 dk[a]! x) dk i' j)) (fun vj _ => (intOf vj).toNat)
          case atStart => exact ⟨j, rfl, Nat.le_refl _, hij', HN, rfl⟩
          case round =>
            obtain ⟨j', rfl, hjj, hij2, HM, HY⟩ := hrel
            have b0 := HM.out.b0
            have hj1 : ((j' - 1 : Nat) : Int) = (j' : Int) - 1 ∨ j' = 0 := by omega
            by_cases hle2 : i' ≤ j'
            · have hle2' : decide ((i' : Int) ≤ j') = true := by simp; omega
              have hgt2' : decide ((i' : Int) > j') = false := by simp; omega
              have hj1 : ((j' - 1 : Nat) : Int) = (j' : Int) - 1 := by omega
              cases hlv2 : lt2 dk[a]! dk[j']! with
              | true =>
                go_wp2_with (go_at_call 31; refine (HM.out.cmp a j' rfl rfl (by omega) (by omega) true hlv2).mono ?_; rintro e w3 ⟨rfl, HN3⟩; clear b0)
                refine ⟨⟨j' - 1, by rw [hj1], by omega, by omega, HN3, ?_⟩, by simp [intOf]; omega⟩
                show _ = _
                rw [← HY.out]
                exact (scanDown_go _ dk i' j' hle2 (by omega) (by simp [hlv2])).symm
              | false =>
                have hj2 : j' = scanDown (fun x => lt2 dk[a]! x) dk i' j := by
                  rw [← HY.out]
                  exact (scanDown_end _ dk i' j' (.inr (by simp [hlv2]))).symm
                have HJ2 := Hid.lay hj2
                clear hj2
                have hlt := scans_lt lt2 a i j dk (by omega) HI2.out HJ2.out hle2
                have he := Hid.lay (partEq_go lt2 a i j dk HI2.out HJ2.out (by omega))
                go_wp2_with (go_at_call 31; refine (HM.out.cmp a j' rfl rfl (by omega) (by omega) false hlv2).mono ?_; rintro e w3 ⟨rfl, HN3⟩; clear b0; have b1 := HN3.out.b1; obtain ⟨hsw, HS3⟩ := HN3.out.swap hblk i' j' (by omega) (by omega))
                refine ⟨⟨i' + 1, j' - 1, _, by push_cast; rfl, by rw [hj1], by omega, by omega, by omega, HS3, he.out.symm.trans HO.out⟩, by simp [intOf]; omega⟩
            · have hle2' : decide ((i' : Int) ≤ j') = false := by simp; omega
              have hgt2' : decide ((i' : Int) > j') = true := by simp; omega
              have hj2 : j' = scanDown (fun x => lt2 dk[a]! x) dk i' j := by
                rw [← HY.out]
                exact (scanDown_end _ dk i' j' (.inl hle2)).symm
              have HJ2 := Hid.lay hj2
              clear hj2
              go_wp2_with fail
              go_ret
              have he := partEq_break lt2 a i j dk HI2.out HJ2.out (by omega)
              rw [HO.out] at he
              rw [he]
              exact ⟨rfl, HM.out.sr, HM.out.sz, HM.out.kp⟩
      · have hle' : decide ((i' : Int) ≤ j) = false := by simp; omega
        have HN := HJ
        clear b0
        go_wp2_with fail
        have hi2 : i' = scanUp (fun x => !lt2 dk[a]! x) dk j i := by
          show _ = _
          rw [← HX.out]
          exact (scanUp_end _ dk j i' (.inl hle)).symm
        have HI2 := Hid.lay hi2
        clear hi2
        go_loopw [10] (fun vj w2 => ∃ (j' : Nat), vj = .int .i64 j' ∧ j' ≤ j ∧ i' ≤ j' + 1 ∧ Hid (In w w2 blk Bs c n dk) ∧ Hid (scanDown (fun x => lt2 dk[a]! x) dk i' j' = scanDown (fun x => lt2 dk[a]! x) dk i' j)) (fun vj _ => (intOf vj).toNat)
        case atStart => exact ⟨j, rfl, Nat.le_refl _, hij', HN, rfl⟩
        case round =>
          obtain ⟨j', rfl, hjj, hij2, HM, HY⟩ := hrel
          have b0 := HM.out.b0
          have hj1 : ((j' - 1 : Nat) : Int) = (j' : Int) - 1 ∨ j' = 0 := by omega
          by_cases hle2 : i' ≤ j'
          · omega
          · have hle2' : decide ((i' : Int) ≤ j') = false := by simp; omega
            have hgt2' : decide ((i' : Int) > j') = true := by simp; omega
            have hj2 : j' = scanDown (fun x => lt2 dk[a]! x) dk i' j := by
              rw [← HY.out]
              exact (scanDown_end _ dk i' j' (.inl hle2)).symm
            have HJ2 := Hid.lay hj2
            clear hj2
            go_wp2_with fail
            go_ret
            have he := partEq_break lt2 a i j dk HI2.out HJ2.out (by omega)
            rw [HO.out] at he
            rw [he]
            exact ⟨rfl, HM.out.sr, HM.out.sz, HM.out.kp⟩
end Go.Proofs.Qxb6609202aDoor.Wr
