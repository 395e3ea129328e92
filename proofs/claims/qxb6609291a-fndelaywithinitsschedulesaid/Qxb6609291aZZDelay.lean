/-
  rand.New (16), rand.NewPCG (17), ZZDelay (10).
-/
import Derived.Test.Qxb6609291aDelay2
namespace Go.Proofs.Qxb6609291a.Dl
open Go.RowKit Go.Proofs.Qxb6609291a.Pcg

theorem delay_any (j : ByteArray) (b m f v : Int) (hb : 1 ≤ b) (hb' : b < 9223372036854775807) (hm : b ≤ m) (hm' : m ≤ 9223372036854775807) (hf : 1 ≤ f) (hf' : f ≤ 9223372036854775807) (hv : v ≤ 9223372036854775807) (r p X : Nat) (w : World) (hg : Rng w r p X) :
    Calls Try.prog 15 #[.agg #[.string j, .int .i64 b, .int .i64 m], .int .i64 f, .int .i64 v, .pointer (some ⟨r, 0, none⟩)] w fun e w' => ∃ d, e = .returned (.int .i64 d) ∧ DRel j b m f v X d ∧ w.grownBy w' (some p) := by
  cases hj : isP j with
  | true => exact delay_prop j b m f v hb hm hm' hf hf' r p X w hg hj
  | false =>
    cases hk : isD j with
    | true => exact delay_dec j b m f v hb hb' hm hm' hv r p X w hg hj hk
    | false => exact delay_add j b m f v hb hm hm' hf hf' r p X w hg hj hk

set_option maxHeartbeats 1000000 in
theorem newPCG_any (a b : Int) (w : World) :
    Calls Try.prog 17 #[.int .u64 a, .int .u64 b] w fun e w' => e = .returned (.pointer (some ⟨w.heap.size, 0, none⟩)) ∧ w' = w.alloc (.cells #[.int .u64 a, .int .u64 b] 51) := by
  go_enter Try.func17, Try.ntmps17
  go_wp2
  go_ret
  exact ⟨rfl, rfl⟩
set_option maxHeartbeats 1000000 in
theorem new_any (p : Nat) (w : World) :
    Calls Try.prog 16 #[.iface 39 (.pointer (some ⟨p, 0, none⟩))] w fun e w' => e = .returned (.pointer (some ⟨w.heap.size, 0, none⟩)) ∧ w' = w.alloc (.cells #[.iface 39 (.pointer (some ⟨p, 0, none⟩))] 49) := by
  go_enter Try.func16, Try.ntmps16
  go_wp2
  go_ret
  exact ⟨rfl, rfl⟩

/-- the state of two seeds -/
def seed (s1 s2 : Int) : Nat := s1.toNat * 18446744073709551616 + s2.toNat
theorem seed_hi (s1 s2 : Int) (a0 : 0 ≤ s1) (b0 : 0 ≤ s2) (b1 : s2 ≤ 18446744073709551615) : hiOf (seed s1 s2) = s1 := by unfold hiOf seed; omega
theorem seed_lo (s1 s2 : Int) (b0 : 0 ≤ s2) (b1 : s2 ≤ 18446744073709551615) : loOf (seed s1 s2) = s2 := by unfold loOf seed; omega
theorem seed_lt (s1 s2 : Int) (a1 : s1 ≤ 18446744073709551615) (b1 : s2 ≤ 18446744073709551615) : seed s1 s2 < 340282366920938463463374607431768211456 := by unfold seed; omega

theorem rng_box (s1 s2 : Int) (a0 : 0 ≤ s1) (a1 : s1 ≤ 18446744073709551615) (b0 : 0 ≤ s2) (b1 : s2 ≤ 18446744073709551615) (w : World) (o : Obj) :
    Rng (((w.alloc o).alloc (.cells #[.int .u64 s1, .int .u64 s2] 51)).alloc (.cells #[.iface 39 (.pointer (some ⟨w.heap.size + 1, 0, none⟩))] 49)).drew (w.heap.size + 1 + 1) (w.heap.size + 1) (seed s1 s2) where
  hX := seed_lt s1 s2 a1 b1
  h0 := by rw [seed_hi s1 s2 a0 b0 b1]; simp [go_sem]
  h1 := by rw [seed_lo s1 s2 b0 b1]; simp [go_sem]
  f0 := by simp [go_sem]
  f1 := by simp [go_sem]
  hr := by simp [go_sem]
  ne := by omega

theorem fin_zz {w w2 : World} {o2 o3 : Obj} {x y z : Value} (h : (((w.alloc (.cells #[x, y, z] 35)).alloc o2).alloc o3).drew.grownBy w2 (some (w.heap.size + 1))) :
    Hid (Below w.heap.size w w2) ∧ (w2.cell? ⟨w.heap.size, 0, none⟩ = some x ∧ w2.cell? ⟨w.heap.size, 1, none⟩ = some y ∧ w2.cell? ⟨w.heap.size, 2, none⟩ = some z) := by
  have hb : Below w.heap.size w (((w.alloc (.cells #[x, y, z] 35)).alloc o2).alloc o3).drew := ((((Below.refl _ _).alloc (Nat.le_refl _) _).alloc (by simp) _).alloc (by simp; omega) _).drew
  refine ⟨hb.grown h hb.size (fun k hk => by simp at hk; omega), ?_, ?_, ?_⟩
  · exact h.cell (a := ⟨w.heap.size, 0, none⟩) (by simp [go_sem]) (by simp)
  · exact h.cell (a := ⟨w.heap.size, 1, none⟩) (by simp [go_sem]) (by simp)
  · exact h.cell (a := ⟨w.heap.size, 2, none⟩) (by simp [go_sem]) (by simp)

set_option maxHeartbeats 1000000 in
theorem zzDelay_any (j : ByteArray) (b m f v s1 s2 : Int) (hb : 1 ≤ b) (hb' : b < 9223372036854775807) (hm : b ≤ m) (hm' : m ≤ 9223372036854775807) (hf : 1 ≤ f) (hf' : f ≤ 9223372036854775807) (hv : v ≤ 9223372036854775807)
    (a0 : 0 ≤ s1) (a1 : s1 ≤ 18446744073709551615) (b0 : 0 ≤ s2) (b1 : s2 ≤ 18446744073709551615) (w : World) :
    Calls Try.prog 10 #[.string j, .int .i64 b, .int .i64 m, .int .i64 f, .int .i64 v, .int .u64 s1, .int .u64 s2] w fun e w' => ∃ d, e = .returned (.int .i64 d) ∧ DRel j b m f v (seed s1 s2) d ∧ Below w.heap.size w w' := by
  go_enter Try.func10, Try.ntmps10
  go_wp2_with fail
  go_region_held3 (fun w' => w'.cell? ⟨w.heap.size, 0, none⟩ = some (.string j) ∧ w'.cell? ⟨w.heap.size, 1, none⟩ = some (.int .i64 b) ∧ w'.cell? ⟨w.heap.size, 2, none⟩ = some (.int .i64 m)) (first | exact hkeep | simp [go_sem]) ((first
    | (go_at_call 17; refine (newPCG_any s1 s2 _).mono ?_; rintro e w1 ⟨rfl, rfl⟩)
    | (go_at_call 16; refine (new_any _ _).mono ?_; rintro e w1 ⟨rfl, rfl⟩)
    | (go_at_call 15; refine (delay_any j b m f v hb hb' hm hm' hf hf' hv _ _ (seed s1 s2) _ (rng_box s1 s2 a0 a1 b0 b1 w _)).mono ?_; rintro e w1 ⟨d, rfl, hd, hgr⟩; obtain ⟨HB, hkeep⟩ := fin_zz hgr; have HD : Hid (DRel j b m f v (seed s1 s2) d) := hd; clear hd hgr)))
  go_wp2
  go_ret
  exact ⟨_, rfl, HD.out, HB.out⟩
end Go.Proofs.Qxb6609291a.Dl
