/-
  (backoff).delay (15): the decorrelated way.
-/
import Derived.Test.Qxb6609291aDelay
import Derived.Deep.RegionHeld3
namespace Go.Proofs.Qxb6609291a.Dl
open Go.RowKit Go.Proofs.Qxb6609291a.Pcg

theorem gbox (w : World) (o : Obj) : w.grownBy (w.alloc o).drew none := by
  have h := World.grownBy_alloc w o none
  exact ⟨h.os, h.tape, h.output, h.size, h.block⟩
theorem kbox {w w2 : World} {p : Nat} {a b c : Value} (hp : p < w.heap.size) (h : (w.alloc (.cells #[a, b, c] 35)).drew.grownBy w2 (some p)) :
    w2.cell? ⟨w.heap.size, 1, none⟩ = some b ∧ w2.cell? ⟨w.heap.size, 2, none⟩ = some c :=
  ⟨h.cell (a := ⟨w.heap.size, 1, none⟩) (by simp [go_sem]) (by simp; omega), h.cell (a := ⟨w.heap.size, 2, none⟩) (by simp [go_sem]) (by simp; omega)⟩
theorem wrapS (x : Int) (h0 : 0 ≤ x) (h1 : x ≤ 9223372036854775807) : IntKind.i64.wrap x = x := by rw [IntKind.wrap_i64]; omega
theorem fin2 {j : ByteArray} {b m f v : Int} {X : Nat} {w w2 : World} {p : Nat} {o : Obj} {N u : Int} {X' : Nat} (hF : ∀ u X', Drawn N X u X' → DRel j b m f v X (minOf (b + u) m)) (hd : Drawn N X u X') (h : (w.alloc o).drew.grownBy w2 (some p)) :
    Hid (DRel j b m f v X (minOf (b + u) m) ∧ w.grownBy w2 (some p)) :=
  ⟨hF u X' hd, grown_trans (grown_weak (gbox w o)) h⟩
set_option maxHeartbeats 2000000 in
theorem delay_dec (j : ByteArray) (b m f v : Int) (hb : 1 ≤ b) (hb' : b < 9223372036854775807) (_hm : b ≤ m) (_hm' : m ≤ 9223372036854775807) (_hv : v ≤ 9223372036854775807) (r p X : Nat) (w : World) (hg : Hid (Rng w r p X)) (hj : Hid (isP j = false)) (hk : Hid (isD j = true)) :
    Calls Try.prog 15 #[.agg #[.string j, .int .i64 b, .int .i64 m], .int .i64 f, .int .i64 v, .pointer (some ⟨r, 0, none⟩)] w fun e w' => ∃ d, e = .returned (.int .i64 d) ∧ DRel j b m f v X d ∧ w.grownBy w' (some p) := by
  have hj' : (j.toList == [112, 114, 111, 112, 111, 114, 116, 105, 111, 110, 97, 108]) = false := hj.out
  have hk' : (j.toList == [100, 101, 99, 111, 114, 114, 101, 108, 97, 116, 101, 100]) = true := hk.out
  have hpw : p < w.heap.size := World.block_lt_of_cell? w ⟨p, 0, none⟩ hg.out.h0
  have HL : Hid (∀ L U, lastOf b f v = L → upOf L = U → ∀ u X', Drawn (U - b) X u X' → DRel j b m f v X (minOf (b + u) m)) :=
    fun L U e1 e2 u X' h => .inr (.inl ⟨hj.out, hk.out, u, X', by rw [e1, e2]; exact h, rfl⟩)
  by_cases h1 : 1 < f
  · by_cases h2 : v < b
    · by_cases h3 : b ≤ 3074457345618258602
      · have HF : Hid (∀ u X', Drawn (3 * b - b) X u X' → DRel j b m f v X (minOf (b + u) m)) := HL.out b (3 * b) (by simp [lastOf, h1, h2]) (by simp [upOf, h3])
        have hwr := wrapS (3 * b - b) (by omega) (by omega)
        go_enter Try.func15, Try.ntmps15
        go_wp2_with fail
        go_region_held3 (fun w' => w'.cell? ⟨w.heap.size, 1, none⟩ = some (.int .i64 b) ∧ w'.cell? ⟨w.heap.size, 2, none⟩ = some (.int .i64 m)) (first | exact ⟨c1, c2⟩ | simp [go_sem]) ((go_at_call 19; refine (int64N_any (3 * b - b) (by omega) (by omega) r p X _ (rng_grow hg.out (gbox _ _))).mono ?_; rintro e w2 ⟨u, X', rfl, hd, hg2, hgr⟩; have HX := fin2 HF.out hd hgr; obtain ⟨c1, c2⟩ := kbox hpw hgr; obtain ⟨u0, u1⟩ := hd.range (by omega) (by omega); have hs := wrapS (b + u) (by omega) (by omega); clear hd hg2 hgr))
        rw [show (if m < b + u then m else b + u) = minOf (b + u) m from rfl]
        go_wp2
        go_ret
        exact ⟨_, rfl, HX.out.1, HX.out.2⟩
      · have HF : Hid (∀ u X', Drawn (9223372036854775807 - b) X u X' → DRel j b m f v X (minOf (b + u) m)) := HL.out b (9223372036854775807) (by simp [lastOf, h1, h2]) (by simp [upOf, h3])
        have hwr := wrapS (9223372036854775807 - b) (by omega) (by omega)
        go_enter Try.func15, Try.ntmps15
        go_wp2_with fail
        go_region_held3 (fun w' => w'.cell? ⟨w.heap.size, 1, none⟩ = some (.int .i64 b) ∧ w'.cell? ⟨w.heap.size, 2, none⟩ = some (.int .i64 m)) (first | exact ⟨c1, c2⟩ | simp [go_sem]) ((go_at_call 19; refine (int64N_any (9223372036854775807 - b) (by omega) (by omega) r p X _ (rng_grow hg.out (gbox _ _))).mono ?_; rintro e w2 ⟨u, X', rfl, hd, hg2, hgr⟩; have HX := fin2 HF.out hd hgr; obtain ⟨c1, c2⟩ := kbox hpw hgr; obtain ⟨u0, u1⟩ := hd.range (by omega) (by omega); have hs := wrapS (b + u) (by omega) (by omega); clear hd hg2 hgr))
        rw [show (if m < b + u then m else b + u) = minOf (b + u) m from rfl]
        go_wp2
        go_ret
        exact ⟨_, rfl, HX.out.1, HX.out.2⟩
    · by_cases h3 : v ≤ 3074457345618258602
      · have HF : Hid (∀ u X', Drawn (3 * v - b) X u X' → DRel j b m f v X (minOf (b + u) m)) := HL.out v (3 * v) (by simp [lastOf, h1, h2]) (by simp [upOf, h3])
        have hwr := wrapS (3 * v - b) (by omega) (by omega)
        go_enter Try.func15, Try.ntmps15
        go_wp2_with fail
        go_region_held3 (fun w' => w'.cell? ⟨w.heap.size, 1, none⟩ = some (.int .i64 b) ∧ w'.cell? ⟨w.heap.size, 2, none⟩ = some (.int .i64 m)) (first | exact ⟨c1, c2⟩ | simp [go_sem]) ((go_at_call 19; refine (int64N_any (3 * v - b) (by omega) (by omega) r p X _ (rng_grow hg.out (gbox _ _))).mono ?_; rintro e w2 ⟨u, X', rfl, hd, hg2, hgr⟩; have HX := fin2 HF.out hd hgr; obtain ⟨c1, c2⟩ := kbox hpw hgr; obtain ⟨u0, u1⟩ := hd.range (by omega) (by omega); have hs := wrapS (b + u) (by omega) (by omega); clear hd hg2 hgr))
        rw [show (if m < b + u then m else b + u) = minOf (b + u) m from rfl]
        go_wp2
        go_ret
        exact ⟨_, rfl, HX.out.1, HX.out.2⟩
      · have HF : Hid (∀ u X', Drawn (9223372036854775807 - b) X u X' → DRel j b m f v X (minOf (b + u) m)) := HL.out v (9223372036854775807) (by simp [lastOf, h1, h2]) (by simp [upOf, h3])
        have hwr := wrapS (9223372036854775807 - b) (by omega) (by omega)
        go_enter Try.func15, Try.ntmps15
        go_wp2_with fail
        go_region_held3 (fun w' => w'.cell? ⟨w.heap.size, 1, none⟩ = some (.int .i64 b) ∧ w'.cell? ⟨w.heap.size, 2, none⟩ = some (.int .i64 m)) (first | exact ⟨c1, c2⟩ | simp [go_sem]) ((go_at_call 19; refine (int64N_any (9223372036854775807 - b) (by omega) (by omega) r p X _ (rng_grow hg.out (gbox _ _))).mono ?_; rintro e w2 ⟨u, X', rfl, hd, hg2, hgr⟩; have HX := fin2 HF.out hd hgr; obtain ⟨c1, c2⟩ := kbox hpw hgr; obtain ⟨u0, u1⟩ := hd.range (by omega) (by omega); have hs := wrapS (b + u) (by omega) (by omega); clear hd hg2 hgr))
        rw [show (if m < b + u then m else b + u) = minOf (b + u) m from rfl]
        go_wp2
        go_ret
        exact ⟨_, rfl, HX.out.1, HX.out.2⟩
  · by_cases h3 : b ≤ 3074457345618258602
    · have HF : Hid (∀ u X', Drawn (3 * b - b) X u X' → DRel j b m f v X (minOf (b + u) m)) := HL.out b (3 * b) (by simp [lastOf, h1]) (by simp [upOf, h3])
      have hwr := wrapS (3 * b - b) (by omega) (by omega)
      go_enter Try.func15, Try.ntmps15
      go_wp2_with fail
      go_region_held3 (fun w' => w'.cell? ⟨w.heap.size, 1, none⟩ = some (.int .i64 b) ∧ w'.cell? ⟨w.heap.size, 2, none⟩ = some (.int .i64 m)) (first | exact ⟨c1, c2⟩ | simp [go_sem]) ((go_at_call 19; refine (int64N_any (3 * b - b) (by omega) (by omega) r p X _ (rng_grow hg.out (gbox _ _))).mono ?_; rintro e w2 ⟨u, X', rfl, hd, hg2, hgr⟩; have HX := fin2 HF.out hd hgr; obtain ⟨c1, c2⟩ := kbox hpw hgr; obtain ⟨u0, u1⟩ := hd.range (by omega) (by omega); have hs := wrapS (b + u) (by omega) (by omega); clear hd hg2 hgr))
      rw [show (if m < b + u then m else b + u) = minOf (b + u) m from rfl]
      go_wp2
      go_ret
      exact ⟨_, rfl, HX.out.1, HX.out.2⟩
    · have HF : Hid (∀ u X', Drawn (9223372036854775807 - b) X u X' → DRel j b m f v X (minOf (b + u) m)) := HL.out b (9223372036854775807) (by simp [lastOf, h1]) (by simp [upOf, h3])
      have hwr := wrapS (9223372036854775807 - b) (by omega) (by omega)
      go_enter Try.func15, Try.ntmps15
      go_wp2_with fail
      go_region_held3 (fun w' => w'.cell? ⟨w.heap.size, 1, none⟩ = some (.int .i64 b) ∧ w'.cell? ⟨w.heap.size, 2, none⟩ = some (.int .i64 m)) (first | exact ⟨c1, c2⟩ | simp [go_sem]) ((go_at_call 19; refine (int64N_any (9223372036854775807 - b) (by omega) (by omega) r p X _ (rng_grow hg.out (gbox _ _))).mono ?_; rintro e w2 ⟨u, X', rfl, hd, hg2, hgr⟩; have HX := fin2 HF.out hd hgr; obtain ⟨c1, c2⟩ := kbox hpw hgr; obtain ⟨u0, u1⟩ := hd.range (by omega) (by omega); have hs := wrapS (b + u) (by omega) (by omega); clear hd hg2 hgr))
      rw [show (if m < b + u then m else b + u) = minOf (b + u) m from rfl]
      go_wp2
      go_ret
      exact ⟨_, rfl, HX.out.1, HX.out.2⟩
end Go.Proofs.Qxb6609291a.Dl
