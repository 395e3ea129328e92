/-
  sort.insertionSort_func (56), over the closure that lays blocks.
-/
import Derived.Test.Qxb6609202aDoorSr
namespace Go.Proofs.Qxb6609202aDoor.Wr
open Go.RowKit Go.Lib Go.Sort

/-- the type handle that Swapper's literal is bound to -/

def TH : Value := .pointer (some ⟨7, 54, none⟩)
theorem TH_eq : typeHandle Tryd.prog 54 = TH := by kernel_rfl


/-- inside a function of the sort, entered in w: its box lies at w's end; the row holds d -/
structure In (w wr : World) (blk Bs c n : Nat) (d : Array R3) : Prop where
  sr : SR wr blk Bs c d
  sz : d.size = n
  b0 : wr.cell? ⟨w.heap.size, 0, none⟩ = some (.func (.func 31) #[] #[.pointer (some ⟨Bs, 0, none⟩)])
  b1 : wr.cell? ⟨w.heap.size, 1, none⟩ = some (.func (.func 53) #[] #[.slice (some ⟨blk, 0, none⟩) n c, TH])
  kp : Kp (fun k => k = blk) w wr

theorem In.start {w : World} {blk Bs c n : Nat} {d : Array R3} (h : SR w blk Bs c d) (hn : d.size = n) :
    In w (w.alloc (.cells #[.func (.func 31) #[] #[.pointer (some ⟨Bs, 0, none⟩)], .func (.func 53) #[] #[.slice (some ⟨blk, 0, none⟩) n c, TH]] 86)) blk Bs c n d :=
  ⟨h.keep (Kp.alloc' w _) (fun e => e) (fun e => e), hn, by simp, by simp, (Kp.alloc' w _).mono fun _ _ e => e.elim⟩
theorem In.less {w wr w2 : World} {blk Bs c n : Nat} {d : Array R3} (h : In w wr blk Bs c n d) (k : Kp (fun _ => False) wr w2) : In w w2 blk Bs c n d :=
  ⟨h.sr.keep k (fun e => e) (fun e => e), h.sz, k.cell h.b0 (fun e => e), k.cell h.b1 (fun e => e), h.kp.trans k fun _ _ e => e.elim⟩
theorem In.box {w wr : World} {blk Bs c n : Nat} {d : Array R3} (_ : In w wr blk Bs c n d) (hb : blk < w.heap.size) : w.heap.size ≠ blk := by omega
theorem In.step {w wr w2 : World} {blk Bs c n : Nat} {d d' : Array R3} (h : In w wr blk Bs c n d) (hb : blk < w.heap.size) (hs : SR w2 blk Bs c d') (hz : d'.size = n) (k : Kp (fun k => k = blk) wr w2) : In w w2 blk Bs c n d' :=
  ⟨hs, hz, k.cell h.b0 (fun e => h.box hb e), k.cell h.b1 (fun e => h.box hb e), h.kp.trans k fun _ _ e => e⟩
theorem In.swap {w wr : World} {blk Bs c n : Nat} {d : Array R3} (h : In w wr blk Bs c n d) (hb : blk < w.heap.size) (i j : Nat) (hi : i < n) (hj : j < n) :
    (callFunc 53 #[.int .i64 i, .int .i64 j, .slice (some ⟨blk, 0, none⟩) n c, TH]).run Tryd.prog wr = .ok (.value (.tuple #[])) (swW wr blk d i j) ∧ Hid (In w (swW wr blk d i j) blk Bs c n (swp d i j)) := by
  have hz := h.sz
  have hs := h.sr.swap i j (by omega) (by omega)
  exact ⟨by rw [← TH_eq]; exact swap_run wr blk Bs c n d h.sr h.sz i j hi hj, h.step hb hs.1 (by rw [size_swp]; exact h.sz) hs.2⟩

set_option maxHeartbeats 2000000 in
set_option maxRecDepth 100000 in
theorem ins_any (w : World) (blk Bs c n a b : Nat) (d : Array R3) (hs : Hid (SR w blk Bs c d)) (hn : d.size = n) (hab : a ≤ b) (hbn : b ≤ n) (hsz : n < 4611686018427387904) :
    Calls Tryd.prog 56 #[.agg #[.func (.func 31) #[] #[.pointer (some ⟨Bs, 0, none⟩)], .func (.func 53) #[] #[.slice (some ⟨blk, 0, none⟩) n c, TH]], .int .i64 a, .int .i64 b] w fun e w' =>
      e = .returned (.tuple #[]) ∧ SR w' blk Bs c (Sort.insertionSort lt2 d a b) ∧ (Sort.insertionSort lt2 d a b).size = n ∧ Kp (fun k => k = blk) w w' := by
  have HI := Hid.lay (In.start hs.out hn)
  have hblk := hs.out.lt
  go_enter Tryd.func56, Tryd.ntmps56
  go_wp2_with fail
  go_loopw [6] (fun vi wr => ∃ (i : Nat) (dk : Array R3), vi = .int .i64 i ∧ a < i ∧ i ≤ b + 1 ∧ Hid (In w wr blk Bs c n dk) ∧ Hid (insOuter lt2 a b i dk = insOuter lt2 a b (a + 1) d)) (fun vi _ => b + 1 - (intOf vi).toNat)
  case atStart => exact ⟨a + 1, d, by go_num, by omega, by omega, HI, rfl⟩
  case round =>
    obtain ⟨i, dk, rfl, hai, hib, HK, HO⟩ := hrel
    by_cases hlt : i < b
    · have hlt' : decide ((i : Int) < b) = true := by simp; omega
      go_wp2_with fail
      go_loopw [7] (fun vj wr2 => ∃ (j : Nat) (dj : Array R3), vj = .int .i64 j ∧ a ≤ j ∧ j ≤ i ∧ Hid (In w wr2 blk Bs c n dj) ∧ Hid (insInner lt2 a j dj = insInner lt2 a i dk)) (fun vj _ => (intOf vj).toNat)
      case atStart => exact ⟨i, dk, rfl, by omega, Nat.le_refl _, HK, rfl⟩
      case round =>
        obtain ⟨j, dj, rfl, haj, hji, HJ, HX⟩ := hrel
        have b0 := HJ.out.b0
        have hzj := HJ.out.sz
        by_cases hja : a < j
        · have hja' : decide ((j : Int) > a) = true := by simp; omega
          have hj1 : ((j - 1 : Nat) : Int) = (j : Int) - 1 := by omega
          have hL := less_any wr blk Bs c dj (Hid.lay HJ.out.sr) j (j - 1) (by omega) (by omega)
          rw [hj1] at hL
          cases hlv : lt2 dj[j]! dj[j - 1]! with
          | true =>
            rw [hlv] at hL
            go_wp2_with (go_at_call 31; refine hL.mono ?_; rintro e w2 ⟨rfl, k2⟩; replace HJ2 := Hid.lay (HJ.out.less k2); clear k2 hL b0; have b1 := HJ2.out.b1; obtain ⟨hsw, HS⟩ := HJ2.out.swap hblk j (j - 1) (by omega) (by omega); rw [hj1] at hsw)
            refine ⟨⟨j - 1, _, by rw [hj1], by omega, by omega, HS, ?_⟩, by simp [intOf]; omega⟩
            exact (insInner_go lt2 a j dj hja hlv).symm.trans HX.out
          | false =>
            rw [hlv] at hL
            go_wp2_with (go_at_call 31; refine hL.mono ?_; rintro e w2 ⟨rfl, k2⟩; replace HJ2 := Hid.lay (HJ.out.less k2); clear k2 hL b0)
            refine ⟨⟨i + 1, dj, by go_num, by omega, by omega, HJ2, ?_⟩, by simp [intOf]; omega⟩
            show _ = _
            rw [← HO.out, insOuter_go lt2 a b i dk hlt, ← HX.out, insInner_stop lt2 a j dj (.inr hlv)]
        · have hja' : decide ((j : Int) > a) = false := by simp; omega
          go_wp2_with fail
          refine ⟨⟨i + 1, dj, by go_num, by omega, by omega, HJ, ?_⟩, by simp [intOf]; omega⟩
          show _ = _
          rw [← HO.out, insOuter_go lt2 a b i dk hlt, ← HX.out, insInner_stop lt2 a j dj (.inl (by omega))]
    · have hlt' : decide ((i : Int) < b) = false := by simp; omega
      go_wp2_with fail
      go_end0
      have e : Sort.insertionSort lt2 d a b = dk := by
        unfold Sort.insertionSort
        rw [← HO.out, insOuter_stop lt2 a b i dk hlt]
      rw [e]
      exact ⟨rfl, HK.out.sr, HK.out.sz, HK.out.kp⟩
end Go.Proofs.Qxb6609202aDoor.Wr
