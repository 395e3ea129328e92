/-
  The law's arguments, and 'a copy first'.
-/
import Derived.Test.Qxb6609202aDoorZw
import Derived.Test.Qxb6609202aDoorRe
import Derived.Test.Qxb6609202aDoorMs
import Derived.Lib.SliceRun
import Derived.Laws.IdiomCopy
namespace Go.Proofs.Qxb6609202aDoor.Wr
open Go.RowKit Go.Lib Go.Sort

/-- an argument: a slice of n integers, xs -/
structure Arg (w : World) (p : Option Addr) (n : Nat) (xs : Array Int) : Prop where
  sz : xs.size = n
  nil : p = none → n = 0
  rd : n = 0 ∨ ∃ b o, p = some ⟨b, o, none⟩ ∧ ∀ i, i < n → w.cell? ⟨b, o + i, none⟩ = some (.int .i64 xs[i]!)
  rng : ∀ i, i < n → -9223372036854775808 ≤ xs[i]! ∧ xs[i]! ≤ 9223372036854775807
theorem Arg.keep {w w' : World} {p : Option Addr} {n : Nat} {xs : Array Int} (h : Arg w p n xs) (k : Kp (fun _ => False) w w') : Arg w' p n xs :=
  ⟨h.sz, h.nil, by
    rcases h.rd with h0 | ⟨b, o, e, hc⟩
    · exact .inl h0
    · exact .inr ⟨b, o, e, fun i hi => k.cell (hc i hi) (fun e => e)⟩, h.rng⟩

theorem size3 : (Tryd.prog.info? 3).map (·.size) = some 1 := by kernel_rfl
theorem setCells_row (g : Nat) : ∀ (xs : List Int) (o : Nat) (a : Array Int) (w : World), IR w g a → o + xs.length ≤ a.size →
    ∃ a', IR (w.setCells g o (xs.map encI)) g a' ∧ a'.size = a.size ∧ (∀ j, j < o → a'[j]! = a[j]!) ∧ (∀ j (h : j < xs.length), a'[o + j]! = xs[j]) ∧ Kp (fun b => b = g) w (w.setCells g o (xs.map encI))
  | [], o, a, w, h, _ => ⟨a, h, rfl, fun _ _ => rfl, fun j h => absurd h (Nat.not_lt_zero _), Kp.refl _ _⟩
  | x :: xs, o, a, w, h, hl => by
    simp only [List.length_cons] at hl
    obtain ⟨p1, p2⟩ := h.put o (by omega) x
    obtain ⟨a', h1, h2, h3, h4, h5⟩ := setCells_row g xs (o + 1) _ _ p1 (by simp; omega)
    refine ⟨a', h1, by simpa using h2, fun j hj => ?_, fun j hj => ?_, p2.trans h5 fun _ _ e => e⟩
    · rw [h3 j (by omega), seti_ne a _ (by omega) (by omega)]
    · cases j with
      | zero =>
        rw [Nat.add_zero, h3 o (by omega), seti_self a _ (by omega)]
        rfl
      | succ j =>
        have := h4 j (by simpa using hj)
        rw [show o + (j + 1) = o + 1 + j by omega, this]
        rfl

/-- the copy -/
theorem copy_run {w : World} {p : Option Addr} {n c : Nat} {xs : Array Int} (h : Arg w p n xs) :
    ∃ W', (Builtin.copy_ #[22, 22] 3 #[.slice (some ⟨w.heap.size, 0, none⟩) n n, .slice p n c]).run Tryd.prog (w.alloc (.cells (madeCells #[.int .i64 0] n) 3)) = .ok (.int .i64 n) W' ∧
      Col W' (some ⟨w.heap.size, 0, none⟩) n xs ∧ Kp (fun _ => False) w W' := by
  have k0 := Kp.alloc' w (.cells (madeCells #[.int .i64 0] n) 3)
  have m0 := IR.made n w 3
  rcases h.rd with h0 | ⟨b, o, rfl, hc⟩
  · subst h0
    refine ⟨_, by rw [run_copy_none _ 22 22 3 3 _ _ _ _ _ _ (by kernel_rfl) size3 (by simp)]; rfl, ⟨h.sz, .inl rfl⟩, k0⟩
  · have hsz := h.sz
    have hr := run_copy_cells (P := Tryd.prog) (w.alloc (.cells (madeCells #[.int .i64 0] n) 3)) 22 22 3 3 w.heap.size 0 n n ⟨b, o, none⟩ n c (xs.toList.map encI) (by kernel_rfl) size3 (by simp [hsz]) (fun j v hj => by
        have hj' : j < n := by
          have := (List.getElem?_eq_some_iff.1 hj).1
          simpa [hsz] using this
        have hv : v = .int .i64 xs[j]! := by
          rw [getElem!_pos xs j (by omega)]
          simp [hsz, hj', encI] at hj
          exact hj.symm
        subst hv
        have e : (⟨b, o, none⟩ : Addr).add j = ⟨b, o + j, none⟩ := by unfold Addr.add; split <;> simp_all
        rw [e]
        exact k0.cell (hc j hj') (fun e => e)) (fun j hj => by
        have hj' : j < n := by simpa [hsz] using hj
        have := (m0.cell (i := j) (by simpa using hj')).1
        rw [Nat.zero_add, this]
        rfl) (fun j hj => by
        have hj' : j < n := by simpa [hsz] using hj
        have := (m0.cell (i := j) (by simpa using hj')).2
        rw [Nat.zero_add]
        exact this) (fun v hv => by
        obtain ⟨i, _, rfl⟩ := List.mem_map.1 hv
        rfl)
    obtain ⟨a', h1, h2, h3, h4, h5⟩ := setCells_row w.heap.size xs.toList 0 _ _ m0 (by simp [hsz])
    refine ⟨_, by rw [hr]; simp [goInt, hsz], ⟨hsz, .inr ⟨_, rfl, fun i hi => ?_⟩⟩, k0.trans h5 fun i hi e => by omega⟩
    have h6 := h4 i (by simpa [hsz] using hi)
    rw [Nat.zero_add] at h6
    have h7 := (h1.cell (i := i) (by rw [h2]; simpa using hi)).1
    rw [h7, h6, getElem!_pos xs i (by omega)]
    simp
end Go.Proofs.Qxb6609202aDoor.Wr
