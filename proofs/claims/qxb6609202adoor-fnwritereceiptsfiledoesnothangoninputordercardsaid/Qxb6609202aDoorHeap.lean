/-
  sort.siftDown_func (81), sort.heapSort_func (57), over the closure that lays blocks.
-/
import Derived.Test.Qxb6609202aDoorIns
import Derived.Sort.WalkB3
namespace Go.Proofs.Qxb6609202aDoor.Wr
open Go.RowKit Go.Lib Go.Sort

theorem In.cmp {w wr : World} {blk Bs c n : Nat} {d : Array R3} (h : In w wr blk Bs c n d) {I J : Int} (i j : Nat) (hI : I = i) (hJ : J = j) (hi : i < n) (hj : j < n) (v : Bool) (hv : lt2 d[i]! d[j]! = v) :
    Calls Tryd.prog 31 #[.int .i64 I, .int .i64 J, .pointer (some ⟨Bs, 0, none⟩)] wr fun e w' => e = .returned (.bool v) ∧ Hid (In w w' blk Bs c n d) := by
  subst hI hJ hv
  have hz := h.sz
  refine (less_any wr blk Bs c d h.sr i j (by omega) (by omega)).mono ?_
  rintro e w' ⟨rfl, k⟩
  exact ⟨rfl, h.less k⟩

set_option maxHeartbeats 4000000 in
set_option maxRecDepth 100000 in
theorem sift_any (w : World) (blk Bs c n lo hi F : Nat) (d : Array R3) (hs : Hid (SR w blk Bs c d)) (hn : d.size = n) (hlo : lo ≤ hi) (hbn : F + hi ≤ n) (hsz : n < 1073741824) :
    Calls Tryd.prog 81 #[.agg #[.func (.func 31) #[] #[.pointer (some ⟨Bs, 0, none⟩)], .func (.func 53) #[] #[.slice (some ⟨blk, 0, none⟩) n c, TH]], .int .i64 lo, .int .i64 hi, .int .i64 F] w fun e w' =>
      e = .returned (.tuple #[]) ∧ SR w' blk Bs c (siftDown lt2 hi F lo d) ∧ (siftDown lt2 hi F lo d).size = n ∧ Kp (fun k => k = blk) w w' := by
  have HI := Hid.lay (In.start hs.out hn)
  have hblk := hs.out.lt
  go_enter Tryd.func81, Tryd.ntmps81
  go_wp2_with fail
  go_loopw [8] (fun vi wr => ∃ (r : Nat) (dk : Array R3), vi = .int .i64 r ∧ r ≤ hi ∧ Hid (In w wr blk Bs c n dk) ∧ Hid (siftDown lt2 hi F r dk = siftDown lt2 hi F lo d)) (fun vi _ => hi - (intOf vi).toNat)
  case atStart => exact ⟨lo, d, rfl, hlo, HI, rfl⟩
  case round =>
    obtain ⟨r, dk, rfl, hrh, HK, HO⟩ := hrel
    have b0 := HK.out.b0
    by_cases h0 : 2 * r + 1 < hi
    · have h0' : decide ((2 * (r : Int) + 1) ≥ hi) = false := by simp; omega
      -- which child
      by_cases hc : 2 * r + 2 < hi ∧ lt2 dk[F + (2 * r + 1)]! dk[F + (2 * r + 2)]! = true
      · obtain ⟨h1, h2⟩ := hc
        have h1' : decide ((2 * (r : Int) + 1 + 1) < hi) = true := by simp; omega
        cases h3 : lt2 dk[F + r]! dk[F + (2 * r + 2)]! with
        | true =>
          go_wp2_with (first
            | (go_at_call 31; refine (HK.out.cmp (F + (2 * r + 1)) (F + (2 * r + 2)) (by omega) (by omega) (by omega) (by omega) true h2).mono ?_; rintro e w2 ⟨rfl, HJ⟩; clear b0; have b0 := HJ.out.b0)
            | (go_at_call 31; refine (HJ.out.cmp (F + r) (F + (2 * r + 2)) (by omega) (by omega) (by omega) (by omega) true h3).mono ?_; rintro e w3 ⟨rfl, HJ3⟩; clear b0; have b1 := HJ3.out.b1; obtain ⟨hsw, HS⟩ := HJ3.out.swap hblk (F + r) (F + (2 * r + 1 + 1)) (by omega) (by omega); push_cast at hsw))
          refine ⟨⟨2 * r + 1 + 1, _, by push_cast; rfl, by omega, HS, (sd_right_go lt2 dk h1 h2 h3).symm.trans HO.out⟩, by simp [intOf]; omega⟩
        | false =>
          go_wp2_with (first
            | (go_at_call 31; refine (HK.out.cmp (F + (2 * r + 1)) (F + (2 * r + 2)) (by omega) (by omega) (by omega) (by omega) true h2).mono ?_; rintro e w2 ⟨rfl, HJ⟩; clear b0; have b0 := HJ.out.b0)
            | (go_at_call 31; refine (HJ.out.cmp (F + r) (F + (2 * r + 2)) (by omega) (by omega) (by omega) (by omega) false h3).mono ?_; rintro e w3 ⟨rfl, HJ3⟩; clear b0))
          refine bodyPost_ret (results_none rfl _ _ _) rfl ?_
          rw [← HO.out, sd_right_stop lt2 dk h1 h2 h3]
          exact ⟨rfl, HJ3.out.sr, HJ3.out.sz, HJ3.out.kp⟩
      · have hc2 : 2 * r + 2 < hi → lt2 dk[F + (2 * r + 1)]! dk[F + (2 * r + 2)]! = false := fun h => by
          cases e : lt2 dk[F + (2 * r + 1)]! dk[F + (2 * r + 2)]! with
          | false => rfl
          | true => exact absurd ⟨h, e⟩ hc
        have HC := Hid.lay hc2
        clear hc hc2
        cases h3 : lt2 dk[F + r]! dk[F + (2 * r + 1)]! with
        | true =>
          by_cases h1 : 2 * r + 2 < hi
          · have h1' : decide ((2 * (r : Int) + 1 + 1) < hi) = true := by simp; omega
            go_wp2_with (first
              | (go_at_call 31; refine (HK.out.cmp (F + (2 * r + 1)) (F + (2 * r + 2)) (by omega) (by omega) (by omega) (by omega) false (HC.out h1)).mono ?_; rintro e w2 ⟨rfl, HJ⟩; clear b0; have b0 := HJ.out.b0)
              | (go_at_call 31; refine (HJ.out.cmp (F + r) (F + (2 * r + 1)) (by omega) (by omega) (by omega) (by omega) true h3).mono ?_; rintro e w3 ⟨rfl, HJ3⟩; clear b0; have b1 := HJ3.out.b1; obtain ⟨hsw, HS⟩ := HJ3.out.swap hblk (F + r) (F + (2 * r + 1)) (by omega) (by omega); push_cast at hsw))
            refine ⟨⟨2 * r + 1, _, by push_cast; rfl, by omega, HS, (sd_left_go lt2 dk h0 HC.out h3).symm.trans HO.out⟩, by simp [intOf]; omega⟩
          · have h1' : decide ((2 * (r : Int) + 1 + 1) < hi) = false := by simp; omega
            go_wp2_with (go_at_call 31; refine (HK.out.cmp (F + r) (F + (2 * r + 1)) (by omega) (by omega) (by omega) (by omega) true h3).mono ?_; rintro e w3 ⟨rfl, HJ3⟩; clear b0; have b1 := HJ3.out.b1; obtain ⟨hsw, HS⟩ := HJ3.out.swap hblk (F + r) (F + (2 * r + 1)) (by omega) (by omega); push_cast at hsw)
            refine ⟨⟨2 * r + 1, _, by push_cast; rfl, by omega, HS, (sd_left_go lt2 dk h0 HC.out h3).symm.trans HO.out⟩, by simp [intOf]; omega⟩
        | false =>
          by_cases h1 : 2 * r + 2 < hi
          · have h1' : decide ((2 * (r : Int) + 1 + 1) < hi) = true := by simp; omega
            go_wp2_with (first
              | (go_at_call 31; refine (HK.out.cmp (F + (2 * r + 1)) (F + (2 * r + 2)) (by omega) (by omega) (by omega) (by omega) false (HC.out h1)).mono ?_; rintro e w2 ⟨rfl, HJ⟩; clear b0; have b0 := HJ.out.b0)
              | (go_at_call 31; refine (HJ.out.cmp (F + r) (F + (2 * r + 1)) (by omega) (by omega) (by omega) (by omega) false h3).mono ?_; rintro e w3 ⟨rfl, HJ3⟩; clear b0))
            refine bodyPost_ret (results_none rfl _ _ _) rfl ?_
            rw [← HO.out, sd_left_stop lt2 dk h0 HC.out h3]
            exact ⟨rfl, HJ3.out.sr, HJ3.out.sz, HJ3.out.kp⟩
          · have h1' : decide ((2 * (r : Int) + 1 + 1) < hi) = false := by simp; omega
            go_wp2_with (go_at_call 31; refine (HK.out.cmp (F + r) (F + (2 * r + 1)) (by omega) (by omega) (by omega) (by omega) false h3).mono ?_; rintro e w3 ⟨rfl, HJ3⟩; clear b0)
            refine bodyPost_ret (results_none rfl _ _ _) rfl ?_
            rw [← HO.out, sd_left_stop lt2 dk h0 HC.out h3]
            exact ⟨rfl, HJ3.out.sr, HJ3.out.sz, HJ3.out.kp⟩
    · have h0' : decide ((2 * (r : Int) + 1) ≥ hi) = true := by simp; omega
      go_wp2_with fail
      go_end0
      rw [← HO.out, sd_end lt2 dk (by omega)]
      exact ⟨rfl, HK.out.sr, HK.out.sz, HK.out.kp⟩

end Go.Proofs.Qxb6609202aDoor.Wr
