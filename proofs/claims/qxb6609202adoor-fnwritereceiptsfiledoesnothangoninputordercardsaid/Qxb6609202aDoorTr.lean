/-
  zzb1Triples (15): columns of integers, zipped.
-/
import Derived.Test.Qxb6609202aDoorRw
namespace Go.Proofs.Qxb6609202aDoor.Wr
open Go.RowKit Go.Lib Go.Sort

/-- a column: a slice of n integers, xs -/
def Col (w : World) (p : Option Addr) (n : Nat) (xs : Array Int) : Prop := xs.size = n ∧ (n = 0 ∨ ∃ g, p = some ⟨g, 0, none⟩ ∧ ∀ i, i < n → w.cell? ⟨g, i, none⟩ = some (.int .i64 xs[i]!))
theorem Col.keep {w w' : World} {p : Option Addr} {n : Nat} {xs : Array Int} (h : Col w p n xs) (k : Kp (fun _ => False) w w') : Col w' p n xs :=
  ⟨h.1, by
    rcases h.2 with h0 | ⟨g, e, hc⟩
    · exact .inl h0
    · exact .inr ⟨g, e, fun i hi => k.cell (hc i hi) (fun e => e)⟩⟩
theorem Col.at {w : World} {p : Option Addr} {n : Nat} {xs : Array Int} (h : Col w p n xs) {i : Nat} (hi : i < n) : ∃ g, p = some ⟨g, 0, none⟩ ∧ w.cell? ⟨g, i, none⟩ = some (.int .i64 xs[i]!) := by
  rcases h.2 with h0 | ⟨g, e, hc⟩
  · omega
  · exact ⟨g, e, hc i hi⟩

theorem Col.cell {w : World} {g n : Nat} {xs : Array Int} (h : Col w (some ⟨g, 0, none⟩) n xs) {i : Nat} (hi : i < n) : w.cell? ⟨g, i, none⟩ = some (.int .i64 xs[i]!) := by
  obtain ⟨g', e, hc⟩ := h.at hi
  obtain rfl : g = g' := by cases e; rfl
  exact hc

def zip3 (n : Nat) (x y z : Array Int) : Array R3 := Array.ofFn fun i : Fin n => (x[i.val]!, y[i.val]!, z[i.val]!)
theorem zip3_size (n : Nat) (x y z : Array Int) : (zip3 n x y z).size = n := by simp [zip3]
theorem zip3_get {n : Nat} (x y z : Array Int) {i : Nat} (h : i < n) : (zip3 n x y z)[i]! = (x[i]!, y[i]!, z[i]!) := by
  rw [bang_get _ (by rw [zip3_size]; exact h)]
  simp [zip3]

/-- the row is being filled with d -/
structure Fl (w wr : World) (g n i : Nat) (d a : Array R3) : Prop where
  ra : RW wr g a
  fa : w.heap.size ≤ g
  sa : a.size = n
  eq : ∀ j, j < i → a[j]! = d[j]!
  kp : Kp (fun _ => False) w wr

theorem Fl.start (w : World) (n : Nat) (d : Array R3) (T : TypeId) : Fl w (w.alloc (.cells (madeCells #[.int .i64 0, .int .i64 0, .int .i64 0] (n * 3)) T)) w.heap.size n 0 d (Array.replicate n (0, 0, 0)) :=
  ⟨RW.made n w T, Nat.le_refl _, by simp, fun _ h => absurd h (Nat.not_lt_zero _), Kp.alloc' w _⟩
theorem Fl.step {w wr : World} {g n i : Nat} {d a : Array R3} (h : Fl w wr g n i d a) (hi : i < n) (m : Nat) : Fl w ((wr.drewN m).setCells g (i * 3) (enc3 d[i]!)) g n (i + 1) d (a.set! i d[i]!) := by
  have hk : Kp (fun _ => False) wr (wr.drewN m) := (Kp.refl _ wr).drew m
  obtain ⟨p1, p2⟩ := (h.ra.keep hk (fun e => e)).put i (by rw [h.sa]; exact hi) d[i]!
  refine ⟨p1, h.fa, by simpa using h.sa, fun j hj => ?_, (h.kp.trans hk fun _ _ e => e).trans p2 fun i hi e => by have := h.fa; omega⟩
  by_cases e : j = i
  · subst e
    exact set_get_self a _ (by rw [h.sa]; exact hi)
  · have sa := h.sa
    rw [← h.eq j (by omega), set_get_ne a _ e (by omega)]
theorem Fl.done {w wr : World} {g n : Nat} {d a : Array R3} (h : Fl w wr g n n d a) (hn : d.size = n) : a = d := by
  have sa := h.sa
  refine Array.ext (by omega) fun t h1 h2 => ?_
  rw [← bang_get a h1, ← bang_get d h2]
  exact h.eq t (by omega)

set_option maxHeartbeats 4000000 in
set_option maxRecDepth 100000 in
theorem trip_any (w : World) (p1 p2 p3 : Option Addr) (n c1 c2 c3 : Nat) (x y z : Array Int) (h1 : Hid (Col w p1 n x)) (h2 : Hid (Col w p2 n y)) (h3 : Hid (Col w p3 n z)) (hsz : n ≤ 32768) :
    Calls Tryd.prog 15 #[.slice p1 n c1, .slice p2 n c2, .slice p3 n c3] w fun e w' => ∃ g, e = .returned (.slice (some ⟨g, 0, none⟩) n n) ∧ RW w' g (zip3 n x y z) ∧ w.heap.size ≤ g ∧ Kp (fun _ => False) w w' := by
  have mk := make34 n (by omega)
  have F0 := Hid.lay (Fl.start w n (zip3 n x y z) 38)
  go_enter Tryd.func15, Tryd.ntmps15
  go_wp2_with fail
  clear mk
  go_loopw [8] (fun s wr => ∃ (i : Nat) (a : Array R3), i ≤ n ∧ s = .int .i64 i ∧ Hid (Fl w wr w.heap.size n i (zip3 n x y z) a)) (fun s _ => n - (intOf s).toNat)
  case atStart => exact ⟨0, _, Nat.zero_le _, rfl, F0⟩
  case round =>
    obtain ⟨i, a, hi, rfl, HF⟩ := hrel
    clear F0
    by_cases hin : i < n
    · have hin' : decide ((i : Int) < n) = true := by simp; omega
      obtain ⟨g1, rfl, r1⟩ := (h1.out.keep HF.out.kp).at hin
      obtain ⟨g2, rfl, r2⟩ := (h2.out.keep HF.out.kp).at hin
      obtain ⟨g3, rfl, r3⟩ := (h3.out.keep HF.out.kp).at hin
      obtain ⟨c1, c2, c3⟩ := HF.out.ra.cells i (by rw [HF.out.sa]; exact hin)
      obtain ⟨f1, f2, f3⟩ := HF.out.ra.frozen i (by rw [HF.out.sa]; exact hin)
      have HS := Hid.lay (HF.out.step hin)
      have hk2 := Hid.lay (fun m => And.intro ((h1.out.keep (HS.out m).kp).cell hin) (And.intro ((h2.out.keep (HS.out m).kp).cell hin) ((h3.out.keep (HS.out m).kp).cell hin)))
      rw [zip3_get x y z hin] at HS hk2
      generalize x[i]! = X at *
      generalize y[i]! = Y at *
      generalize z[i]! = Z at *
      generalize zip3 n x y z = D at *
      go_wp2_with fail
      go_region_held3 (fun w' => w'.cell? ⟨g1, i, none⟩ = some (.int .i64 X) ∧ w'.cell? ⟨g2, i, none⟩ = some (.int .i64 Y) ∧ w'.cell? ⟨g3, i, none⟩ = some (.int .i64 Z)) (first | exact ⟨r1, r2, r3⟩ | exact hk2.out 1 | go_keep) (fail)
      all_goals
        clear r1 r2 r3 c1 c2 c3 f1 f2 f3
        go_wp2_with fail
        exact ⟨⟨i + 1, _, hin, by simp, HS.out 1⟩, by simp [intOf]; omega⟩
    · have hin' : decide ((i : Int) < n) = false := by simp; omega
      obtain rfl : i = n := by omega
      have ha := HF.out.done (zip3_size i x y z)
      subst ha
      go_wp2_with fail
      go_ret
      exact ⟨_, rfl, HF.out.ra, HF.out.fa, HF.out.kp⟩
end Go.Proofs.Qxb6609202aDoor.Wr
