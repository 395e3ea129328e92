/-
  sort.order2_func (106), median_func (85), medianAdjacent_func (84), choosePivot_func (59), over the closure that lays blocks.
-/
import Derived.Test.Qxb6609202aDoorHeap
import Derived.Sort.LotD4
namespace Go.Proofs.Qxb6609202aDoor.Wr
open Go.RowKit Go.Lib Go.Sort

/-- the row, and the counter at C -/
structure Pv (w : World) (blk Bs c n C s : Nat) (d : Array R3) : Prop where
  sr : SR w blk Bs c d
  sz : d.size = n
  ct : w.heap[C]? = some (.cells #[.int .i64 s] 3 (0, 0))
  n1 : C ≠ blk
  n2 : C ≠ Bs

theorem Pv.keep {w w' : World} {blk Bs c n C s : Nat} {d : Array R3} (h : Pv w blk Bs c n C s d) (k : Kp (fun _ => False) w w') : Pv w' blk Bs c n C s d :=
  ⟨h.sr.keep k (fun e => e) (fun e => e), h.sz, k.cells h.ct (fun e => e), h.n1, h.n2⟩
theorem Pv.count {w : World} {blk Bs c n C s : Nat} {d : Array R3} (h : Pv w blk Bs c n C s d) : Pv (w.setCell ⟨C, 0, none⟩ (.int .i64 ((s : Int) + 1))) blk Bs c n C (s + 1) d :=
  ⟨h.sr.keep (Kp.set w C 0 _) (fun e => h.n1 e.symm) (fun e => h.n2 e.symm), h.sz, by simp [World.setCell, Array.getElem?_modify, h.ct], h.n1, h.n2⟩

set_option maxHeartbeats 2000000 in
set_option maxRecDepth 100000 in
theorem order2_any (w : World) (blk Bs c n C s a b : Nat) (d : Array R3) (hp : Hid (Pv w blk Bs c n C s d)) (ha : a < n) (hb : b < n) (hs : s < 100) :
    Calls Tryd.prog 106 #[.agg #[.func (.func 31) #[] #[.pointer (some ⟨Bs, 0, none⟩)], .func (.func 53) #[] #[.slice (some ⟨blk, 0, none⟩) n c, TH]], .int .i64 a, .int .i64 b, .pointer (some ⟨C, 0, none⟩)] w fun e w' =>
      e = .returned (.tuple #[.int .i64 (order2 lt2 d a b s).1, .int .i64 (order2 lt2 d a b s).2.1]) ∧ Pv w' blk Bs c n C (order2 lt2 d a b s).2.2 d ∧ Kp (fun k => k = C) w w' := by
  have HI := Hid.lay (In.start hp.out.sr hp.out.sz)
  have HP := Hid.lay (hp.out.keep (Kp.alloc' w (.cells #[.func (.func 31) #[] #[.pointer (some ⟨Bs, 0, none⟩)], .func (.func 53) #[] #[.slice (some ⟨blk, 0, none⟩) n c, TH]] 86)))
  have HK := Hid.lay (Kp.alloc' w (.cells #[.func (.func 31) #[] #[.pointer (some ⟨Bs, 0, none⟩)], .func (.func 53) #[] #[.slice (some ⟨blk, 0, none⟩) n c, TH]] 86))
  have hz := hp.out.sz
  have b0 := HI.out.b0
  have hO : order2 lt2 d a b s = if lt2 d[b]! d[a]! then (b, a, s + 1) else (a, b, s) := rfl
  have hwr : IntKind.i64.wrap ((s : Int) + 1) = s + 1 := by rw [IntKind.wrap_i64]; omega
  generalize order2 lt2 d a b s = R at hO ⊢
  cases hlv : lt2 d[b]! d[a]! with
  | true =>
    rw [hlv, if_pos rfl] at hO
    subst hO
    go_enter Tryd.func106, Tryd.ntmps106
    go_wp2_with (go_at_call 31; refine (less_any _ blk Bs c d (Hid.lay HP.out.sr) b a (by omega) (by omega)).mono ?_; rintro e w2 ⟨rfl, k2⟩; rw [hlv]; replace HP2 := Hid.lay (HP.out.keep k2); replace HK2 := Hid.lay k2; clear k2 b0; have c2 : w2.cell? ⟨C, 0, none⟩ = some (.int .i64 s) := (by rw [Lib.cell_of_heap HP2.out.ct]; rfl); have f2 := Lib.frozen_of_heap HP2.out.ct 0)
    go_ret2
    exact ⟨rfl, HP2.out.count, ((HK.out.trans HK2.out fun _ _ e => e).mono (A := fun k => k = C) fun _ _ e => e.elim).trans (Kp.set w2 C 0 _) fun _ _ e => e⟩
  | false =>
    rw [hlv, if_neg (by simp)] at hO
    subst hO
    go_enter Tryd.func106, Tryd.ntmps106
    go_wp2_with (go_at_call 31; refine (less_any _ blk Bs c d (Hid.lay HP.out.sr) b a (by omega) (by omega)).mono ?_; rintro e w2 ⟨rfl, k2⟩; rw [hlv]; replace HP2 := Hid.lay (HP.out.keep k2); replace HK2 := Hid.lay k2; clear k2 b0)
    go_ret2
    exact ⟨rfl, HP2.out, (HK.out.trans HK2.out fun _ _ e => e).mono fun _ _ e => e.elim⟩

theorem order2_lt {d : Array R3} {a b s n : Nat} (ha : a < n) (hb : b < n) : (order2 lt2 d a b s).1 < n ∧ (order2 lt2 d a b s).2.1 < n := by
  rcases order2_mem lt2 d a b s with ⟨h1, h2⟩ | ⟨h1, h2⟩ <;> rw [h1, h2] <;> exact ⟨by assumption, by assumption⟩

set_option maxHeartbeats 2000000 in
set_option maxRecDepth 100000 in
theorem median_any (w : World) (blk Bs c n C s x y z : Nat) (d : Array R3) (hp : Hid (Pv w blk Bs c n C s d)) (hx : x < n) (hy : y < n) (hz : z < n) (hs : s < 50) (hC : C < w.heap.size) :
    Calls Tryd.prog 85 #[.agg #[.func (.func 31) #[] #[.pointer (some ⟨Bs, 0, none⟩)], .func (.func 53) #[] #[.slice (some ⟨blk, 0, none⟩) n c, TH]], .int .i64 x, .int .i64 y, .int .i64 z, .pointer (some ⟨C, 0, none⟩)] w fun e w' =>
      e = .returned (.int .i64 (median lt2 d x y z s).1) ∧ Pv w' blk Bs c n C (median lt2 d x y z s).2 d ∧ Kp (fun k => k = C) w w' := by
  have HI := Hid.lay (In.start hp.out.sr hp.out.sz)
  have HP := Hid.lay (hp.out.keep (Kp.alloc' w (.cells #[.func (.func 31) #[] #[.pointer (some ⟨Bs, 0, none⟩)], .func (.func 53) #[] #[.slice (some ⟨blk, 0, none⟩) n c, TH]] 86)))
  have HK := Hid.lay (Kp.alloc' w (.cells #[.func (.func 31) #[] #[.pointer (some ⟨Bs, 0, none⟩)], .func (.func 53) #[] #[.slice (some ⟨blk, 0, none⟩) n c, TH]] 86))
  have b0 := HI.out.b0
  have b1 := HI.out.b1
  have hne : w.heap.size ≠ C := by omega
  obtain ⟨p1, p2⟩ := order2_lt (d := d) (s := s) hx hy
  have q1 := order2_count lt2 d x y s
  have HM : Hid (median lt2 d x y z s = ((order2 lt2 d (order2 lt2 d x y s).1 (order2 lt2 d (order2 lt2 d x y s).2.1 z (order2 lt2 d x y s).2.2).1 (order2 lt2 d (order2 lt2 d x y s).2.1 z (order2 lt2 d x y s).2.2).2.2).2.1, (order2 lt2 d (order2 lt2 d x y s).1 (order2 lt2 d (order2 lt2 d x y s).2.1 z (order2 lt2 d x y s).2.2).1 (order2 lt2 d (order2 lt2 d x y s).2.1 z (order2 lt2 d x y s).2.2).2.2).2.2)) := rfl
  generalize median lt2 d x y z s = R at HM ⊢
  have H1 := Hid.lay (fun W h => order2_any W blk Bs c n C s x y d h hx hy (by omega))
  generalize order2 lt2 d x y s = o1 at *
  obtain ⟨p3, p4⟩ := order2_lt (d := d) (s := o1.2.2) p2 hz
  have q2 := order2_count lt2 d o1.2.1 z o1.2.2
  have H2 := Hid.lay (fun W h => order2_any W blk Bs c n C o1.2.2 o1.2.1 z d h p2 hz (by omega))
  generalize order2 lt2 d o1.2.1 z o1.2.2 = o2 at *
  have H3 := Hid.lay (fun W h => order2_any W blk Bs c n C o2.2.2 o1.1 o2.1 d h p1 p3 (by omega))
  generalize order2 lt2 d o1.1 o2.1 o2.2.2 = o3 at *
  clear p1 p2 p3 p4 q1 q2
  go_enter Tryd.func85, Tryd.ntmps85
  go_wp2_with fail
  refine (H1.out _ HP).mono ?_
  rintro e w1 ⟨rfl, P1, k1⟩
  have HP1 := Hid.lay P1
  have HK1 := Hid.lay k1
  have d0 := k1.cell b0 hne
  have d1 := k1.cell b1 hne
  clear P1 k1 b0 b1
  go_wp2_with fail
  refine (H2.out _ HP1).mono ?_
  rintro e w2 ⟨rfl, P2, k2⟩
  have HP2 := Hid.lay P2
  have HK2 := Hid.lay k2
  have e0 := k2.cell d0 hne
  have e1 := k2.cell d1 hne
  clear P2 k2 d0 d1
  go_wp2_with fail
  refine (H3.out _ HP2).mono ?_
  rintro e w3 ⟨rfl, P3, k3⟩
  have HP3 := Hid.lay P3
  have HK3 := Hid.lay k3
  clear P3 k3 e0 e1
  go_wp2_with fail
  go_ret
  rw [HM.out]
  exact ⟨rfl, HP3.out, ((((HK.out.mono (A := fun k => k = C) fun _ _ e => e.elim).trans HK1.out fun _ _ e => e).trans HK2.out fun _ _ e => e).trans HK3.out fun _ _ e => e)⟩

set_option maxHeartbeats 2000000 in
set_option maxRecDepth 100000 in
theorem medadj_any (w : World) (blk Bs c n C s x : Nat) (d : Array R3) (hp : Hid (Pv w blk Bs c n C s d)) (hx0 : 1 ≤ x) (hx : x + 1 < n) (hs : s < 50) (hC : C < w.heap.size) (hn : n < 1073741824) :
    Calls Tryd.prog 84 #[.agg #[.func (.func 31) #[] #[.pointer (some ⟨Bs, 0, none⟩)], .func (.func 53) #[] #[.slice (some ⟨blk, 0, none⟩) n c, TH]], .int .i64 x, .pointer (some ⟨C, 0, none⟩)] w fun e w' =>
      e = .returned (.int .i64 (medianAdjacent lt2 d x s).1) ∧ Pv w' blk Bs c n C (medianAdjacent lt2 d x s).2 d ∧ Kp (fun k => k = C) w w' := by
  have HI := Hid.lay (In.start hp.out.sr hp.out.sz)
  have HP := Hid.lay (hp.out.keep (Kp.alloc' w (.cells #[.func (.func 31) #[] #[.pointer (some ⟨Bs, 0, none⟩)], .func (.func 53) #[] #[.slice (some ⟨blk, 0, none⟩) n c, TH]] 86)))
  have HK := Hid.lay (Kp.alloc' w (.cells #[.func (.func 31) #[] #[.pointer (some ⟨Bs, 0, none⟩)], .func (.func 53) #[] #[.slice (some ⟨blk, 0, none⟩) n c, TH]] 86))
  have b0 := HI.out.b0
  have b1 := HI.out.b1
  have H1 := Hid.lay (fun W h hc => median_any W blk Bs c n C s (x - 1) x (x + 1) d h (by omega) (by omega) hx hs hc)
  rw [show medianAdjacent lt2 d x s = median lt2 d (x - 1) x (x + 1) s from rfl]
  generalize median lt2 d (x - 1) x (x + 1) s = R at H1 ⊢
  rw [show ((x - 1 : Nat) : Int) = (x : Int) - 1 by omega, show ((x + 1 : Nat) : Int) = (x : Int) + 1 by omega] at H1
  have hC2 := Nat.lt_of_lt_of_le hC HK.out.size
  go_enter Tryd.func84, Tryd.ntmps84
  go_wp2_with fail
  refine (H1.out _ HP hC2).mono ?_
  rintro e w1 ⟨rfl, P1, k1⟩
  have HP1 := Hid.lay P1
  have HK1 := Hid.lay k1
  clear P1 k1 b0 b1
  go_wp2_with fail
  go_ret
  exact ⟨rfl, HP1.out, (HK.out.mono (A := fun k => k = C) fun _ _ e => e.elim).trans HK1.out fun _ _ e => e⟩
end Go.Proofs.Qxb6609202aDoor.Wr
