/-
  sort.Slice (30) over WriteReceipts's closure.
-/
import Derived.Test.Qxb6609202aDoorPdq
namespace Go.Proofs.Qxb6609202aDoor.Wr
open Go.RowKit Go.Lib Go.Sort

theorem slT_ex : (Tryd.prog.info? 52).map (fun i => i.desc) = some (.slice 54) := by kernel_rfl
theorem slE_ex : (Tryd.prog.info? 54).map (fun i => (i.hasPointers, i.bytes)) = some (false, 24) := by kernel_rfl
theorem slK (ie : TypeInfo) (a : ie.hasPointers = false) (b : ie.bytes = 24) (n : Nat) (h2 : 2 ≤ n) : Lib.swapperK n ie 25 = 9 := by
  have c : (n == 0) = false := by simp; omega
  have d : (n == 1) = false := by simp; omega
  simp [Lib.swapperK, a, b, c, d]

theorem bitLenAux_le : ∀ (f x : Nat), Lib.bitLenAux f x ≤ f
  | 0, _ => Nat.le_refl _
  | f + 1, x => by
    unfold Lib.bitLenAux
    split
    · omega
    · have := bitLenAux_le f (x / 2)
      omega
theorem bitLen_le (n : Nat) : Lib.bitLen n < 1073741824 := Nat.lt_of_le_of_lt (bitLenAux_le 64 n) (by decide)

theorem slice_any (w : World) (blk Bs c n : Nat) (d : Array R3) (hs : Hid (SR w blk Bs c d)) (hn : d.size = n) (hsz : n ≤ 32768) :
    Calls Tryd.prog 30 #[.iface 52 (.slice (some ⟨blk, 0, none⟩) n c), .func (.func 31) #[] #[.pointer (some ⟨Bs, 0, none⟩)]] w fun e w' =>
      e = .returned (.tuple #[]) ∧ ∃ d', SR w' blk Bs c d' ∧ PermIn 0 n d d' ∧ SortedIn lt2 0 n d' ∧ Kp (fun k => k = blk) w w' := by
  obtain ⟨it, hit, hdt⟩ := Option.map_eq_some_iff.1 slT_ex
  obtain ⟨ie, hie, hpb⟩ := Option.map_eq_some_iff.1 slE_ex
  have hp : ie.hasPointers = false := congrArg Prod.fst hpb
  have hb : ie.bytes = 24 := congrArg Prod.snd hpb
  have tiny : ∀ w' os, w' = grow w os → n ≤ 1 → ∃ d', SR w' blk Bs c d' ∧ PermIn 0 n d d' ∧ SortedIn lt2 0 n d' ∧ Kp (fun k => k = blk) w w' := by
    rintro w' os rfl h1
    have hk : Kp (fun _ => False) w (grow w os) := ⟨rfl, rfl, rfl, by simp, fun k hk _ => by simp [grow, Array.getElem?_append, hk]⟩
    exact ⟨d, hs.out.keep hk (fun e => e) (fun e => e), permIn_refl d 0 n, fun i j _ h1 h2 => by omega, hk.mono fun _ _ e => e.elim⟩
  rcases Nat.lt_or_ge n 2 with h2 | h2
  · rcases Nat.lt_or_ge n 1 with h1 | h1
    · obtain rfl : n = 0 := by omega
      have e0 : Lib.swapperK 0 ie 25 = 1 := rfl
      refine (Any.sort_Slice_tiny Tryd.laysGg6 52 54 it ie hit hdt (by kernel_rfl) hie 25 (fun _ => by kernel_rfl) (some ⟨blk, 0, none⟩) 0 c (by omega) 45 (by rw [e0]; kernel_rfl) (.func 31) #[] #[.pointer (some ⟨Bs, 0, none⟩)] w).mono ?_
      rintro e w' ⟨rfl, os, hw⟩
      exact ⟨rfl, tiny w' os hw (by omega)⟩
    · obtain rfl : n = 1 := by omega
      have e1 : Lib.swapperK 1 ie 25 = 2 := rfl
      refine (Any.sort_Slice_tiny Tryd.laysGg6 52 54 it ie hit hdt (by kernel_rfl) hie 25 (fun _ => by kernel_rfl) (some ⟨blk, 0, none⟩) 1 c (by omega) 46 (by rw [e1]; kernel_rfl) (.func 31) #[] #[.pointer (some ⟨Bs, 0, none⟩)] w).mono ?_
      rintro e w' ⟨rfl, os, hw⟩
      exact ⟨rfl, tiny w' os hw (by omega)⟩
  · refine Any.sort_Slice_of_pdq Tryd.laysGg6 52 54 it ie hit hdt (by kernel_rfl) hie 25 (fun _ => by kernel_rfl) (some ⟨blk, 0, none⟩) n c (by omega) 53 (by rw [slK ie hp hb n h2]; kernel_rfl) (.func 31) #[] #[.pointer (some ⟨Bs, 0, none⟩)] w _ ?_
    have hb : sliceBound Tryd.prog 54 ie 25 (some ⟨blk, 0, none⟩) n c = #[.slice (some ⟨blk, 0, none⟩) n c, TH] := by
      unfold sliceBound
      rw [slK ie hp hb n h2, if_neg (by decide), TH_eq]
    rw [hb]
    have hk : Kp (fun _ => False) w (sliceWorld Tryd.prog Tryd.laysGg6_ren 52 (some ⟨blk, 0, none⟩) n c w) := (Kp.alloc' w _).trans (Kp.alloc' _ _) (fun _ _ e => e)
    have h := pdq_all blk Bs c n (by omega) (n + 1) 0 n (Lib.bitLen n) d (sliceWorld Tryd.prog Tryd.laysGg6_ren 52 (some ⟨blk, 0, none⟩) n c w) (by omega) (hs.out.keep hk (fun e => e) (fun e => e)) hn (Nat.zero_le _) (Nat.le_refl _) (bitLen_le n) (.inl rfl)
    refine h.mono ?_
    rintro e w' ⟨rfl, s, z, k⟩
    obtain ⟨p1, p2⟩ := pdq_sorts lt2 swo_lt2 d 0 n (Lib.bitLen n) true true (Nat.zero_le _) (by omega) (.inl rfl)
    exact ⟨rfl, _, s, p1, p2, (hk.mono fun _ _ e => e.elim).trans k fun _ _ e => e⟩
end Go.Proofs.Qxb6609202aDoor.Wr
