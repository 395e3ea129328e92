/-
  sort.breakPatterns_func (58), sort.reverseRange_func (60): the shelf's contracts (they call no less), in the words of 'SR'.
-/
import Derived.Test.Qxb6609202aDoorIns
namespace Go.Proofs.Qxb6609202aDoor.Wr
open Go.RowKit Go.Lib Go.Sort

theorem Kp.putRowK (w : World) (blk : Nat) (d : Array R3) : Kp (fun k => k = blk) w (Go.Sort.putRowK enc3 3 w blk 0 d) := by
  unfold Go.Sort.putRowK putRow mapBlock
  exact ⟨rfl, rfl, rfl, by simp, fun k _ hne => by simp [Array.getElem?_modify, Ne.symm hne]⟩
theorem Kp.grow (w : World) (os : Array Obj) : Kp (fun _ => False) w (Go.Sort.grow w os) := by
  refine ⟨rfl, rfl, rfl, ?_, fun k hk _ => ?_⟩
  · rw [Go.Sort.size_grow]; omega
  · unfold Go.Sort.grow
    simp [Array.getElem?_append, hk]
theorem sw_kp (w : World) (blk n : Nat) (d : Array R3) (os : Array Obj) : Kp (fun k => k = blk) w (sortWorldK enc3 3 w blk 0 n d os) := by
  unfold sortWorldK
  refine Kp.trans (A1 := fun _ => False) ?_ (Kp.grow _ os) fun _ _ e => e.elim
  exact ⟨(Kp.putRowK (Sort.ahead w n) blk d).os, (Kp.putRowK (Sort.ahead w n) blk d).tape, (Kp.putRowK (Sort.ahead w n) blk d).output, (Kp.putRowK (Sort.ahead w n) blk d).size, (Kp.putRowK (Sort.ahead w n) blk d).block⟩
theorem sw_sr {w : World} {blk Bs c n m : Nat} {d d' : Array R3} {os : Array Obj} (h : SR w blk Bs c d) (hn : d.size = n) (hn' : d'.size = n) : SR (sortWorldK enc3 3 w blk 0 m d' os) blk Bs c d' := by
  have k := sw_kp w blk m d' os
  refine ⟨holdsK_sortWorldK enc3 3 w blk 0 m d d' os h.lt h.row (by omega), ?_, h.ne, Nat.lt_of_lt_of_le h.lt k.size⟩
  rw [hn', ← hn]
  exact k.cell h.cap h.ne

theorem swaps (blk n c : Nat) : SwapSwapsK Tryd.prog 53 #[.slice (some ⟨blk, 0, none⟩) n c, TH] enc3 3 blk 0 n := by
  obtain ⟨ie, hie, hs⟩ := Option.map_eq_some_iff.1 info54
  have hx := fun args W => run_callFunc_extern Tryd.func53 (by kernel_rfl) (by kernel_rfl) (by kernel_rfl) (e := Extern.ReflectliteSwapper.swap false) (by kernel_rfl) args W
  exact swapSwapsK_of_literal (P := Tryd.prog) false 53 hx 54 ie hie enc3 3 (fun _ => rfl) hs (fun _ => by kernel_rfl) (fun x v hv => by simp [enc3] at hv; rcases hv with rfl | rfl | rfl <;> rfl) blk 0 n c

theorem break_any (w : World) (blk Bs c n a b : Nat) (d : Array R3) (hs : SR w blk Bs c d) (hn : d.size = n) (hz : (breakPatterns d a b).size = n) (hab : a ≤ b) (hbn : b ≤ n) (hsz : n < 1073741824) :
    Calls Tryd.prog 58 #[.agg #[.func (.func 31) #[] #[.pointer (some ⟨Bs, 0, none⟩)], .func (.func 53) #[] #[.slice (some ⟨blk, 0, none⟩) n c, TH]], .int .i64 a, .int .i64 b] w fun e w' =>
      e = .returned (.tuple #[]) ∧ SR w' blk Bs c (breakPatterns d a b) ∧ Kp (fun k => k = blk) w w' := by
  refine (Any.breakPatterns_func_cells_w (P := Tryd.prog) { Tryd.laysGg6 with } enc3 3 (fun _ => rfl) (.func 31) #[] #[.pointer (some ⟨Bs, 0, none⟩)] 53 #[.slice (some ⟨blk, 0, none⟩) n c, TH] blk 0 a b d w (by rw [hn]; exact swaps blk n c) hs.row hs.lt hab (by omega) (by omega)).mono ?_
  rintro e w' ⟨rfl, m, os, rfl⟩
  exact ⟨rfl, sw_sr hs hn hz, sw_kp _ _ _ _ _⟩
theorem reverse_any (w : World) (blk Bs c n a b : Nat) (d : Array R3) (hs : SR w blk Bs c d) (hn : d.size = n) (hz : (reverseRange d a b).size = n) (hab : a ≤ b) (hbn : b ≤ n) (hsz : n < 1073741824) :
    Calls Tryd.prog 60 #[.agg #[.func (.func 31) #[] #[.pointer (some ⟨Bs, 0, none⟩)], .func (.func 53) #[] #[.slice (some ⟨blk, 0, none⟩) n c, TH]], .int .i64 a, .int .i64 b] w fun e w' =>
      e = .returned (.tuple #[]) ∧ SR w' blk Bs c (reverseRange d a b) ∧ Kp (fun k => k = blk) w w' := by
  refine (Any.reverseRange_func_cells_w (P := Tryd.prog) { Tryd.laysGg6 with } enc3 3 (fun _ => rfl) (.func 31) #[] #[.pointer (some ⟨Bs, 0, none⟩)] 53 #[.slice (some ⟨blk, 0, none⟩) n c, TH] blk 0 a b d w (by rw [hn]; exact swaps blk n c) hs.row hs.lt hab (by omega) (by omega)).mono ?_
  rintro e w' ⟨rfl, m, os, rfl⟩
  exact ⟨rfl, sw_sr hs hn hz, sw_kp _ _ _ _ _⟩
end Go.Proofs.Qxb6609202aDoor.Wr
