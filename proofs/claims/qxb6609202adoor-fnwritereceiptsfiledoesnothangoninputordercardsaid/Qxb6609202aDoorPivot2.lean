/-
  sort.choosePivot_func (59), over the closure that lays blocks.
-/
import Derived.Test.Qxb6609202aDoorPivot
namespace Go.Proofs.Qxb6609202aDoor.Wr
open Go.RowKit Go.Lib Go.Sort

def hcode : Hint → Int
  | .unknown => 0
  | .increasing => 1
  | .decreasing => 2

theorem Pv.start {w : World} {blk Bs c n : Nat} {d : Array R3} (h : SR w blk Bs c d) (hn : d.size = n) (hB : Bs < w.heap.size) :
    Pv (w.alloc (.cells #[.int .i64 0] 3)) blk Bs c n w.heap.size 0 d :=
  ⟨h.keep (Kp.alloc' w _) (fun e => e) (fun e => e), hn, by show (w.heap.push _)[w.heap.size]? = _; simp, by have := h.lt; omega, by omega⟩

theorem hintOf_ways (s : Nat) : (s = 0 ∧ hcode (hintOf s) = 1) ∨ (s = 12 ∧ hcode (hintOf s) = 2) ∨ (s ≠ 0 ∧ s ≠ 12 ∧ hcode (hintOf s) = 0) := by
  unfold hintOf
  by_cases h0 : s = 0
  · left; simp [h0, hcode]
  · by_cases h1 : s = 12
    · right; left; simp [h1, hcode]
    · right; right; simp [h0, h1, hcode]

set_option maxHeartbeats 4000000 in
set_option maxRecDepth 100000 in
theorem pivot_any (w : World) (blk Bs c n a L q : Nat) (d : Array R3) (hs : Hid (SR w blk Bs c d)) (hn : d.size = n) (hL : 8 ≤ L) (hq : L / 4 = q) (hbn : a + L ≤ n) (hsz : n < 1073741824) :
    Calls Tryd.prog 59 #[.agg #[.func (.func 31) #[] #[.pointer (some ⟨Bs, 0, none⟩)], .func (.func 53) #[] #[.slice (some ⟨blk, 0, none⟩) n c, TH]], .int .i64 a, .int .i64 (a + L : Int)] w fun e w' =>
      e = .returned (.tuple #[.int .i64 (choosePivot lt2 d a (a + L)).1, .int .i64 (hcode (choosePivot lt2 d a (a + L)).2)]) ∧ SR w' blk Bs c d ∧ Kp (fun _ => False) w w' := by
  have HI := Hid.lay (In.start hs.out hn)
  have hBs : Bs < w.heap.size := World.block_lt_of_cell? w _ hs.out.cap
  have HK0 : Hid (Kp (fun _ => False) w ((w.alloc (.cells #[.func (.func 31) #[] #[.pointer (some ⟨Bs, 0, none⟩)], .func (.func 53) #[] #[.slice (some ⟨blk, 0, none⟩) n c, TH]] 86)).alloc (.cells #[.int .i64 0] 3))) := (Kp.alloc' w _).trans (Kp.alloc' _ _) fun _ _ e => e
  have HP0 := Hid.lay (Pv.start HI.out.sr HI.out.sz (by simp; omega))
  have HN0 := Hid.lay (HI.out.less (Kp.alloc' _ (.cells #[.int .i64 0] 3)))
  have hsz1 : (w.alloc (.cells #[.func (.func 31) #[] #[.pointer (some ⟨Bs, 0, none⟩)], .func (.func 53) #[] #[.slice (some ⟨blk, 0, none⟩) n c, TH]] 86)).heap.size = w.heap.size + 1 := by simp
  rw [hsz1] at HP0
  have hC : w.heap.size + 1 < ((w.alloc (.cells #[.func (.func 31) #[] #[.pointer (some ⟨Bs, 0, none⟩)], .func (.func 53) #[] #[.slice (some ⟨blk, 0, none⟩) n c, TH]] 86)).alloc (.cells #[.int .i64 0] 3)).heap.size := by simp
  have HCH : Hid (choosePivot lt2 d a (a + L) = ((rawPivot lt2 d a (a + L)).1, hintOf (rawPivot lt2 d a (a + L)).2)) := choosePivot_eq lt2 d a (a + L)
  generalize choosePivot lt2 d a (a + L) = R at HCH ⊢
  have b0 := HN0.out.b0
  have b1 := HN0.out.b1
  have hd4 : ((L : Int) / 4) = (q : Int) := by omega
  have hsub : ((a : Int) + L - a) = L := by omega
  have hne : w.heap.size ≠ w.heap.size + 1 := by omega
  have hraw : rawPivot lt2 d a (a + L) = if 50 ≤ L then
      median lt2 d (medianAdjacent lt2 d (a + q) 0).1 (medianAdjacent lt2 d (a + q * 2) (medianAdjacent lt2 d (a + q) 0).2).1
        (medianAdjacent lt2 d (a + q * 3) (medianAdjacent lt2 d (a + q * 2) (medianAdjacent lt2 d (a + q) 0).2).2).1
        (medianAdjacent lt2 d (a + q * 3) (medianAdjacent lt2 d (a + q * 2) (medianAdjacent lt2 d (a + q) 0).2).2).2
      else median lt2 d (a + q) (a + q * 2) (a + q * 3) 0 := by
    unfold rawPivot
    rw [show a + L - a = L by omega, if_pos hL, hq, Nat.mul_one]
  by_cases h50 : 50 ≤ L
  · rw [if_pos h50] at hraw
    have m1 := medianAdjacent_mem lt2 d (a + q) 0
    have u1 := medianAdjacent_count lt2 d (a + q) 0
    have H1 := Hid.lay (fun W h hc => medadj_any W blk Bs c n (w.heap.size + 1) 0 (a + q) d h (by omega) (by omega) (by omega) hc hsz)
    generalize medianAdjacent lt2 d (a + q) 0 = r1 at *
    have m2 := medianAdjacent_mem lt2 d (a + q * 2) r1.2
    have u2 := medianAdjacent_count lt2 d (a + q * 2) r1.2
    have H2 := Hid.lay (fun W h hc => medadj_any W blk Bs c n (w.heap.size + 1) r1.2 (a + q * 2) d h (by omega) (by omega) (by omega) hc hsz)
    generalize medianAdjacent lt2 d (a + q * 2) r1.2 = r2 at *
    have m3 := medianAdjacent_mem lt2 d (a + q * 3) r2.2
    have u3 := medianAdjacent_count lt2 d (a + q * 3) r2.2
    have H3 := Hid.lay (fun W h hc => medadj_any W blk Bs c n (w.heap.size + 1) r2.2 (a + q * 3) d h (by omega) (by omega) (by omega) hc hsz)
    generalize medianAdjacent lt2 d (a + q * 3) r2.2 = r3 at *
    have H4 := Hid.lay (fun W h hc => median_any W blk Bs c n (w.heap.size + 1) r3.2 r1.1 r2.1 r3.1 d h (by omega) (by omega) (by omega) (by omega) hc)
    generalize median lt2 d r1.1 r2.1 r3.1 r3.2 = r4 at *
    rw [hraw] at HCH
    push_cast at H1 H2 H3
    clear m1 m2 m3 u1 u2 u3 hraw
    have HW := Hid.lay (hintOf_ways r4.2)
    generalize hHC : hcode (hintOf r4.2) = hc at HW
    have HHC := Hid.lay hHC
    clear hHC
    go_enter Tryd.func59, Tryd.ntmps59
    go_wp2_with fail
    refine (H1.out _ HP0 hC).mono ?_
    rintro e w1 ⟨rfl, P1, k1⟩
    have HP1 := Hid.lay P1
    have KK1 : Hid (Kp (fun k => k = w.heap.size + 1) w w1) := (HK0.out.mono (A := fun k => k = w.heap.size + 1) fun _ _ e => e.elim).trans k1 fun _ _ e => e
    have d0 := k1.cell b0 hne
    have d1 := k1.cell b1 hne
    have hC1 := Nat.lt_of_lt_of_le hC k1.size
    clear P1 k1 b0 b1 hC
    go_wp2_with fail
    refine (H2.out _ HP1 hC1).mono ?_
    rintro e w2 ⟨rfl, P2, k2⟩
    have HP2 := Hid.lay P2
    have KK2 := Hid.lay (KK1.out.trans k2 fun _ _ e => e)
    have e0 := k2.cell d0 hne
    have e1 := k2.cell d1 hne
    have hC2 := Nat.lt_of_lt_of_le hC1 k2.size
    clear P2 k2 d0 d1 hC1
    go_wp2_with fail
    refine (H3.out _ HP2 hC2).mono ?_
    rintro e w3 ⟨rfl, P3, k3⟩
    have HP3 := Hid.lay P3
    have KK3 := Hid.lay (KK2.out.trans k3 fun _ _ e => e)
    have f0 := k3.cell e0 hne
    have f1 := k3.cell e1 hne
    have hC3 := Nat.lt_of_lt_of_le hC2 k3.size
    clear P3 k3 e0 e1 hC2
    go_wp2_with fail
    refine (H4.out _ HP3 hC3).mono ?_
    rintro e w4 ⟨rfl, P4, k4⟩
    have HP4 := Hid.lay P4
    have KK4 := Hid.lay (KK3.out.trans k4 fun _ _ e => e)
    have c4 : w4.cell? ⟨w.heap.size + 1, 0, none⟩ = some (.int .i64 r4.2) := by rw [Lib.cell_of_heap P4.ct]; rfl
    clear P4 k4 f0 f1 hC3
    have KF : Hid (Kp (fun _ => False) w w4) := KK4.out.mono fun i hi e => by omega
    rcases HW.out with ⟨h0, rfl⟩ | ⟨h0, rfl⟩ | ⟨h0, h1, rfl⟩
    · have t0 : ((r4.2 : Int) == 0) = true := by simp; omega
      go_wp2_with fail
      go_ret2
      rw [HCH.out, HHC.out]
      exact ⟨rfl, HP4.out.sr, KF.out⟩
    · have t0 : ((r4.2 : Int) == 0) = false := by rw [beq_eq_false_iff_ne]; omega
      have t1 : ((r4.2 : Int) == 12) = true := by rw [beq_iff_eq]; omega
      go_wp2_with fail
      go_ret2
      rw [HCH.out, HHC.out]
      exact ⟨rfl, HP4.out.sr, KF.out⟩
    · have t0 : ((r4.2 : Int) == 0) = false := by rw [beq_eq_false_iff_ne]; omega
      have t1 : ((r4.2 : Int) == 12) = false := by rw [beq_eq_false_iff_ne]; omega
      go_wp2_with fail
      go_ret2
      rw [HCH.out, HHC.out]
      exact ⟨rfl, HP4.out.sr, KF.out⟩
  · rw [if_neg h50] at hraw
    have H4 := Hid.lay (fun W h hc => median_any W blk Bs c n (w.heap.size + 1) 0 (a + q) (a + q * 2) (a + q * 3) d h (by omega) (by omega) (by omega) (by omega) hc)
    generalize median lt2 d (a + q) (a + q * 2) (a + q * 3) 0 = r4 at *
    rw [hraw] at HCH
    push_cast at H4
    clear hraw
    have HW := Hid.lay (hintOf_ways r4.2)
    generalize hHC : hcode (hintOf r4.2) = hc at HW
    have HHC := Hid.lay hHC
    clear hHC
    go_enter Tryd.func59, Tryd.ntmps59
    go_wp2_with fail
    refine (H4.out _ HP0 hC).mono ?_
    rintro e w4 ⟨rfl, P4, k4⟩
    have HP4 := Hid.lay P4
    have KK4 : Hid (Kp (fun k => k = w.heap.size + 1) w w4) := (HK0.out.mono (A := fun k => k = w.heap.size + 1) fun _ _ e => e.elim).trans k4 fun _ _ e => e
    have c4 : w4.cell? ⟨w.heap.size + 1, 0, none⟩ = some (.int .i64 r4.2) := by rw [Lib.cell_of_heap P4.ct]; rfl
    clear P4 k4 b0 b1 hC
    have KF : Hid (Kp (fun _ => False) w w4) := KK4.out.mono fun i hi e => by omega
    rcases HW.out with ⟨h0, rfl⟩ | ⟨h0, rfl⟩ | ⟨h0, h1, rfl⟩
    · have t0 : ((r4.2 : Int) == 0) = true := by simp; omega
      go_wp2_with fail
      go_ret2
      rw [HCH.out, HHC.out]
      exact ⟨rfl, HP4.out.sr, KF.out⟩
    · have t0 : ((r4.2 : Int) == 0) = false := by rw [beq_eq_false_iff_ne]; omega
      have t1 : ((r4.2 : Int) == 12) = true := by rw [beq_iff_eq]; omega
      go_wp2_with fail
      go_ret2
      rw [HCH.out, HHC.out]
      exact ⟨rfl, HP4.out.sr, KF.out⟩
    · have t0 : ((r4.2 : Int) == 0) = false := by rw [beq_eq_false_iff_ne]; omega
      have t1 : ((r4.2 : Int) == 12) = false := by rw [beq_eq_false_iff_ne]; omega
      go_wp2_with fail
      go_ret2
      rw [HCH.out, HHC.out]
      exact ⟨rfl, HP4.out.sr, KF.out⟩
end Go.Proofs.Qxb6609202aDoor.Wr
