/-
  (backoff).delay (15).
-/
import Derived.Test.Qxb6609291aNominal
import Derived.Test.Qxb6609291aUint64n
import Derived.Deep.RegionWith
namespace Go.Proofs.Qxb6609291a.Dl
open Go.RowKit Go.Proofs.Qxb6609291a.Pcg

/-- is it the word proportional? is it the word decorrelated? -/
def isP (j : ByteArray) : Bool := j.toList == [112, 114, 111, 112, 111, 114, 116, 105, 111, 110, 97, 108]
def isD (j : ByteArray) : Bool := j.toList == [100, 101, 99, 111, 114, 114, 101, 108, 97, 116, 101, 100]
def capP (n u : Int) : Int := if 9223372036854775807 - (n - n / 4) < u then 9223372036854775807 else n - n / 4 + u
def lastOf (b f v : Int) : Int := if 1 < f then (if v < b then b else v) else b
def upOf (l : Int) : Int := if l ≤ 3074457345618258602 then 3 * l else 9223372036854775807
def minOf (x m : Int) : Int := if m < x then m else x
def capA (n m u : Int) : Int := if m - n ≤ u then m else n + u

/-- the delay that is drawn from the state X -/
def DRel (j : ByteArray) (b m f v : Int) (X : Nat) (d : Int) : Prop :=
  (isP j = true ∧ ((nm b m (f.toNat - 1) / 2 = 0 ∧ d = nm b m (f.toNat - 1) - nm b m (f.toNat - 1) / 4) ∨ (nm b m (f.toNat - 1) / 2 ≠ 0 ∧ ∃ u X', Drawn (nm b m (f.toNat - 1) / 2) X u X' ∧ d = capP (nm b m (f.toNat - 1)) u)))
  ∨ (isP j = false ∧ isD j = true ∧ ∃ u X', Drawn (upOf (lastOf b f v) - b) X u X' ∧ d = minOf (b + u) m)
  ∨ (isP j = false ∧ isD j = false ∧ ∃ u X', Drawn b X u X' ∧ d = capA (nm b m (f.toNat - 1)) m u)

theorem rng_grow {w w' : World} {r p X : Nat} (h : Rng w r p X) (hg : w.grownBy w' none) : Rng w' r p X where
  hX := h.hX
  h0 := hg.cell h.h0 (by simp)
  h1 := hg.cell h.h1 (by simp)
  f0 := by rw [World.frozen?_of_block (a := ⟨p, 0, none⟩) (hg.block p (World.block_lt_of_cell? w ⟨p, 0, none⟩ h.h0) (by simp))]; exact h.f0
  f1 := by rw [World.frozen?_of_block (a := ⟨p, 1, none⟩) (hg.block p (World.block_lt_of_cell? w ⟨p, 0, none⟩ h.h0) (by simp))]; exact h.f1
  hr := hg.cell h.hr (by simp)
  ne := h.ne

theorem grown_weak {w w' : World} {p : Nat} (h : w.grownBy w' none) : w.grownBy w' (some p) := ⟨h.os, h.tape, h.output, h.size, fun k hk _ => h.block k hk (by simp)⟩
theorem grown_refl (w : World) (row : Option Nat) : w.grownBy w row := ⟨rfl, rfl, rfl, Nat.le_refl _, fun _ _ _ => rfl⟩
theorem alloc_none {w w' : World} (h : w.grownBy w' none) (o : Obj) : w.grownBy (w'.alloc o) none := grown_trans h (World.grownBy_alloc w' o none)

set_option maxHeartbeats 1000000 in
theorem delay_prop (j : ByteArray) (b m f v : Int) (hb : 1 ≤ b) (hm : b ≤ m) (hm' : m ≤ 9223372036854775807) (hf : 1 ≤ f) (hf' : f ≤ 9223372036854775807) (r p X : Nat) (w : World) (hg : Hid (Rng w r p X)) (hj : Hid (isP j = true)) :
    Calls Try.prog 15 #[.agg #[.string j, .int .i64 b, .int .i64 m], .int .i64 f, .int .i64 v, .pointer (some ⟨r, 0, none⟩)] w fun e w' => ∃ d, e = .returned (.int .i64 d) ∧ DRel j b m f v X d ∧ w.grownBy w' (some p) := by
  have hj' : (j.toList == [112, 114, 111, 112, 111, 114, 116, 105, 111, 110, 97, 108]) = true := hj.out
  obtain ⟨N0, N1⟩ := nm_bounds hb hm (f.toNat - 1)
  go_enter Try.func15, Try.ntmps15
  go_wp2_with fail
  refine (nominal_any j b m f hb hm hm' hf hf' _).mono ?_
  rintro e w1 ⟨rfl, hw1⟩
  have HW1 : Hid (w.grownBy w1 none) := by show w.grownBy w1 none; rw [hw1]; exact alloc_none (World.grownBy_alloc w _ none) _
  clear hw1
  have HR : Hid (DRel j b m f v X = DRel j b m f v X) := rfl
  generalize hN : nm b m (f.toNat - 1) = n at *
  have HN : Hid (nm b m (f.toNat - 1) = n) := hN
  clear hN HR
  by_cases hw : (n / 2 == 0) = true
  · have HE : Hid (DRel j b m f v X (n - n / 4)) := .inl ⟨hj.out, .inl (by rw [HN.out]; exact ⟨by simpa using hw, rfl⟩)⟩
    go_wp2_with fail
    go_ret
    exact ⟨_, rfl, HE.out, grown_weak HW1.out⟩
  · have hw' : (n / 2 == 0) = false := by simpa using hw
    have hn : 0 < n / 2 := by have : n / 2 ≠ 0 := by simpa using hw
                              omega
    clear hw
    go_wp2_with fail
    refine (int64N_any (n / 2) hn (by omega) r p X _ (rng_grow hg.out HW1.out)).mono ?_
    rintro e w2 ⟨u, X', rfl, hd, hg2, hgr⟩
    have HW2 : Hid (w.grownBy w2 (some p)) := grown_trans (grown_weak HW1.out) hgr
    obtain ⟨u0, u1⟩ := hd.range hn (by omega)
    have HD : Hid (Drawn (n / 2) X u X') := hd
    clear hd hg2 hgr
    by_cases hc : 9223372036854775807 - (n - n / 4) < u
    · have HE : Hid (DRel j b m f v X 9223372036854775807) := .inl ⟨hj.out, .inr (by rw [HN.out]; exact ⟨by omega, u, X', HD.out, by simp [capP, hc]⟩)⟩
      go_wp2_with fail
      go_ret
      exact ⟨_, rfl, HE.out, HW2.out⟩
    · have HE : Hid (DRel j b m f v X (n - n / 4 + u)) := .inl ⟨hj.out, .inr (by rw [HN.out]; exact ⟨by omega, u, X', HD.out, by simp [capP, hc]⟩)⟩
      go_wp2_with fail
      go_ret
      exact ⟨_, rfl, HE.out, HW2.out⟩

set_option maxHeartbeats 1000000 in
theorem delay_add (j : ByteArray) (b m f v : Int) (hb : 1 ≤ b) (hm : b ≤ m) (hm' : m ≤ 9223372036854775807) (hf : 1 ≤ f) (hf' : f ≤ 9223372036854775807) (r p X : Nat) (w : World) (hg : Hid (Rng w r p X)) (hj : Hid (isP j = false)) (hk : Hid (isD j = false)) :
    Calls Try.prog 15 #[.agg #[.string j, .int .i64 b, .int .i64 m], .int .i64 f, .int .i64 v, .pointer (some ⟨r, 0, none⟩)] w fun e w' => ∃ d, e = .returned (.int .i64 d) ∧ DRel j b m f v X d ∧ w.grownBy w' (some p) := by
  have hj' : (j.toList == [112, 114, 111, 112, 111, 114, 116, 105, 111, 110, 97, 108]) = false := hj.out
  have hk' : (j.toList == [100, 101, 99, 111, 114, 114, 101, 108, 97, 116, 101, 100]) = false := hk.out
  obtain ⟨N0, N1⟩ := nm_bounds hb hm (f.toNat - 1)
  go_enter Try.func15, Try.ntmps15
  go_wp2_with fail
  refine (nominal_any j b m f hb hm hm' hf hf' _).mono ?_
  rintro e w1 ⟨rfl, hw1⟩
  have HW1 : Hid (w.grownBy w1 none) := by show w.grownBy w1 none; rw [hw1]; exact alloc_none (World.grownBy_alloc w _ none) _
  have c1 : w1.cell? ⟨w.heap.size, 1, none⟩ = some (.int .i64 b) := by rw [hw1]; simp [go_sem]
  have c2 : w1.cell? ⟨w.heap.size, 2, none⟩ = some (.int .i64 m) := by rw [hw1]; simp [go_sem]
  clear hw1
  generalize hN : nm b m (f.toNat - 1) = n at *
  have HN : Hid (nm b m (f.toNat - 1) = n) := hN
  clear hN
  have hpw : p < w.heap.size := World.block_lt_of_cell? w ⟨p, 0, none⟩ hg.out.h0
  go_wp2_with fail
  refine (int64N_any b (by omega) (by omega) r p X _ (rng_grow hg.out HW1.out)).mono ?_
  rintro e w2 ⟨u, X', rfl, hd, hg2, hgr⟩
  have HW2 : Hid (w.grownBy w2 (some p)) := grown_trans (grown_weak HW1.out) hgr
  have d2 : w2.cell? ⟨w.heap.size, 2, none⟩ = some (.int .i64 m) := hgr.cell c2 (by simp; omega)
  obtain ⟨u0, u1⟩ := hd.range (by omega) (by omega)
  have HD : Hid (Drawn b X u X') := hd
  clear hd hg2 hgr c1 c2
  by_cases hc : m - n ≤ u
  · have HE : Hid (DRel j b m f v X m) := .inr (.inr ⟨hj.out, hk.out, u, X', HD.out, by rw [HN.out]; simp [capA, hc]⟩)
    go_wp2_with fail
    go_ret
    exact ⟨_, rfl, HE.out, HW2.out⟩
  · have HE : Hid (DRel j b m f v X (n + u)) := .inr (.inr ⟨hj.out, hk.out, u, X', HD.out, by rw [HN.out]; simp [capA, hc]⟩)
    go_wp2_with fail
    go_ret
    exact ⟨_, rfl, HE.out, HW2.out⟩
end Go.Proofs.Qxb6609291a.Dl
