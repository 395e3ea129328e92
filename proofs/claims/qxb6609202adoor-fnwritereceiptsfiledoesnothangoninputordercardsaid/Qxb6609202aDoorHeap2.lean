/-
  sort.heapSort_func (57), over the closure that lays blocks.
-/
import Derived.Test.Qxb6609202aDoorHeap
namespace Go.Proofs.Qxb6609202aDoor.Wr
open Go.RowKit Go.Lib Go.Sort

set_option maxHeartbeats 4000000 in
set_option maxRecDepth 100000 in
theorem heap_any (w : World) (blk Bs c n a L : Nat) (d : Array R3) (hs : Hid (SR w blk Bs c d)) (hn : d.size = n) (hL : 0 < L) (hbn : a + L ≤ n) (hsz : n < 1073741824) :
    Calls Tryd.prog 57 #[.agg #[.func (.func 31) #[] #[.pointer (some ⟨Bs, 0, none⟩)], .func (.func 53) #[] #[.slice (some ⟨blk, 0, none⟩) n c, TH]], .int .i64 a, .int .i64 (a + L : Int)] w fun e w' =>
      e = .returned (.tuple #[]) ∧ SR w' blk Bs c (heapSort lt2 d a (a + L)) ∧ (heapSort lt2 d a (a + L)).size = n ∧ Kp (fun k => k = blk) w w' := by
  have HI := Hid.lay (In.start hs.out hn)
  have hblk := hs.out.lt
  have hq : ((a : Int) + L - a) = L := by omega
  have hq2 : (((L : Int) - 1).tdiv 2) = ((L - 1) / 2 : Nat) := by
    rw [Int.tdiv_eq_ediv_of_nonneg (by omega)]; omega
  have HE : Hid (heapSort lt2 d a (a + L) = heapPop lt2 a L (heapBuild lt2 L a ((L - 1) / 2 + 1) d)) := by
    show _ = _
    unfold heapSort
    rw [show a + L - a = L by omega]
  go_enter Tryd.func57, Tryd.ntmps57
  go_wp2_with fail
  go_loopw [9] (fun vi wr => ∃ (k : Nat) (dk : Array R3), vi = .int .i64 ((k : Int) - 1) ∧ k ≤ (L - 1) / 2 + 1 ∧ Hid (In w wr blk Bs c n dk) ∧ Hid (heapBuild lt2 L a k dk = heapBuild lt2 L a ((L - 1) / 2 + 1) d)) (fun vi _ => (intOf vi + 1).toNat)
  case atStart => exact ⟨(L - 1) / 2 + 1, d, by push_cast; simp, by omega, HI, rfl⟩
  case round =>
    obtain ⟨k, dk, rfl, hk, HK, HO⟩ := hrel
    have b0 := HK.out.b0
    have b1 := HK.out.b1
    cases k with
    | zero =>
      have hz : ((0 : Nat) : Int) - 1 = -1 := rfl
      rw [hz]
      go_wp2_with fail
      go_loopw [10] (fun vi wr => ∃ (k : Nat) (dj : Array R3), vi = .int .i64 ((k : Int) - 1) ∧ k ≤ L ∧ Hid (In w wr blk Bs c n dj) ∧ Hid (heapPop lt2 a k dj = heapPop lt2 a L dk)) (fun vi _ => (intOf vi + 1).toNat)
      case atStart => exact ⟨L, dk, by simp, by omega, HK, rfl⟩
      case round =>
        obtain ⟨k, dj, rfl, hk2, HJ, HP⟩ := hrel
        clear b0 b1
        have b0 := HJ.out.b0
        have b1 := HJ.out.b1
        cases k with
        | zero =>
          rw [hz]
          go_wp2_with fail
          go_end0
          have e : heapSort lt2 d a (a + L) = dj := by
            rw [HE.out, ← HO.out]
            exact HP.out.symm
          rw [e]
          exact ⟨rfl, HJ.out.sr, HJ.out.sz, HJ.out.kp⟩
        | succ k =>
          rw [show ((k + 1 : Nat) : Int) - 1 = k by omega]
          obtain ⟨hsw, HS⟩ := HJ.out.swap hblk a (a + k) (by omega) (by omega)
          push_cast at hsw
          have e0 := HS.out.b0
          have e1 := HS.out.b1
          go_wp2_with (go_at_call 81; refine (sift_any _ blk Bs c n 0 k a _ (Hid.lay HS.out.sr) HS.out.sz (by omega) (by omega) hsz).mono ?_; rintro e w2 ⟨rfl, s2, z2, k2⟩; replace HN := Hid.lay (HS.out.step hblk s2 z2 k2); clear s2 z2 k2 b0 b1 e0 e1)
          refine ⟨⟨k, _, rfl, by omega, HN, HP.out⟩, by simp [intOf]⟩
    | succ k =>
      rw [show ((k + 1 : Nat) : Int) - 1 = k by omega]
      go_wp2_with (go_at_call 81; refine (sift_any _ blk Bs c n k L a _ (Hid.lay HK.out.sr) HK.out.sz (by omega) (by omega) hsz).mono ?_; rintro e w2 ⟨rfl, s2, z2, k2⟩; replace HN := Hid.lay (HK.out.step hblk s2 z2 k2); clear s2 z2 k2 b0 b1)
      refine ⟨⟨k, _, rfl, by omega, HN, HO.out⟩, by simp [intOf]⟩
end Go.Proofs.Qxb6609202aDoor.Wr
