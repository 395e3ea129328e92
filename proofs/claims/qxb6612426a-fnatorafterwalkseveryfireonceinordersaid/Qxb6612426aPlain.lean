/-
  The plain law: how many distinct fires lie at or after a time, and what one step takes off.
-/
import Derived.Test.Qxb6612426aAt
namespace Go.Proofs.Qxb6612426a.Tm

theorem foldl_spec (a : Int) (xs : List Int) : ∀ (o : Option Int),
    (xs.foldl (stp a) o = none → o = none ∧ ∀ x ∈ xs, ¬ a < x) ∧
    (∀ g, xs.foldl (stp a) o = some g → ((g ∈ xs ∧ a < g) ∨ o = some g) ∧ (∀ x ∈ xs, a < x → g ≤ x) ∧ (∀ m, o = some m → g ≤ m)) := by
  induction xs with
  | nil =>
    intro o
    refine ⟨fun h => ⟨h, fun x hx => by simp at hx⟩, fun g h => ⟨.inr h, fun x hx => by simp at hx, fun m hm => ?_⟩⟩
    simp at h; rw [h] at hm; simp at hm; omega
  | cons x xs ih =>
    intro o
    obtain ⟨ih1, ih2⟩ := ih (stp a o x)
    have hs : (stp a o x = none → o = none ∧ ¬ a < x) ∧ (∀ m, stp a o x = some m → ((m = x ∧ a < x) ∨ o = some m) ∧ (a < x → m ≤ x) ∧ (∀ n, o = some n → m ≤ n)) := by
      cases o with
      | none =>
        refine ⟨fun h => ⟨rfl, fun hx => ?_⟩, fun m h => ?_⟩
        · rw [stp_none hx] at h; simp at h
        · by_cases hx : a < x
          · rw [stp_none hx] at h; simp at h; exact ⟨.inl ⟨h.symm, hx⟩, fun _ => by omega, fun n hn => by simp at hn⟩
          · rw [stp_no hx] at h; simp at h
      | some n =>
        refine ⟨fun h => ?_, fun m h => ?_⟩
        · simp only [stp] at h; split at h <;> simp at h
        · simp only [stp] at h
          split at h
          · rename_i hc
            simp at h; exact ⟨.inl ⟨h.symm, hc.1⟩, fun _ => by omega, fun k hk => by simp at hk; omega⟩
          · rename_i hc
            simp at h; exact ⟨.inr (by rw [h]), fun _ => by omega, fun k hk => by simp at hk; omega⟩
    refine ⟨fun h => ?_, fun g h => ?_⟩
    · obtain ⟨h1, h2⟩ := ih1 h
      obtain ⟨h3, h4⟩ := hs.1 h1
      exact ⟨h3, fun y hy => by rcases List.mem_cons.1 hy with rfl | hy; exact h4; exact h2 y hy⟩
    · obtain ⟨h1, h2, h3⟩ := ih2 g h
      refine ⟨?_, fun y hy hay => ?_, fun m hm => ?_⟩
      · rcases h1 with ⟨h1, h1'⟩ | h1
        · exact .inl ⟨List.mem_cons_of_mem _ h1, h1'⟩
        · rcases (hs.2 g h1).1 with ⟨rfl, h5⟩ | h5
          · exact .inl ⟨List.mem_cons_self, h5⟩
          · exact .inr h5
      · rcases List.mem_cons.1 hy with rfl | hy
        · cases hst : stp a o y with
          | none => exact absurd hay (hs.1 hst).2
          | some m =>
            have := h3 m hst
            have := (hs.2 m hst).2.1 hay
            omega
        · exact h2 y hy hay
      · cases hst : stp a o x with
        | none => rw [(hs.1 hst).1] at hm; simp at hm
        | some k =>
          have := h3 k hst
          have := (hs.2 k hst).2.2 m hm
          omega

theorem best_none {c : Int} {xs : List Int} (h : best (c - 1) xs = none) : ∀ x ∈ xs, ¬ c ≤ x := fun x hx => by
  have := ((foldl_spec (c - 1) xs none).1 h).2 x hx
  omega
theorem best_some {c g : Int} {xs : List Int} (h : best (c - 1) xs = some g) : g ∈ xs ∧ c ≤ g ∧ ∀ x ∈ xs, c ≤ x → g ≤ x := by
  obtain ⟨h1, h2, _⟩ := (foldl_spec (c - 1) xs none).2 g h
  rcases h1 with ⟨h1, h1'⟩ | h1
  · exact ⟨h1, by omega, fun x hx hc => h2 x hx (by omega)⟩
  · simp at h1

/-- does one of the first j fires equal the i-th? -/
def seenTo (xs : List Int) (i : Nat) : Nat → Bool
  | 0 => false
  | j + 1 => seenTo xs i j || (xs.getD j 0 == xs.getD i 0)
/-- how many of the first k fires lie at or after c and are met for the first time -/
def cnt (c : Int) (xs : List Int) : Nat → Nat
  | 0 => 0
  | k + 1 => cnt c xs k + if c ≤ xs.getD k 0 ∧ seenTo xs k k = false then 1 else 0

theorem seenTo_iff (xs : List Int) (i j : Nat) : seenTo xs i j = true ↔ ∃ t, t < j ∧ xs.getD t 0 = xs.getD i 0 := by
  induction j with
  | zero => simp [seenTo]
  | succ j ih =>
    simp only [seenTo, Bool.or_eq_true, ih, beq_iff_eq]
    constructor
    · rintro (⟨t, ht, e⟩ | e)
      · exact ⟨t, by omega, e⟩
      · exact ⟨j, by omega, e⟩
    · rintro ⟨t, ht, e⟩
      by_cases h : t = j
      · subst h; exact .inr e
      · exact .inl ⟨t, by omega, e⟩

theorem cnt_le (c : Int) (xs : List Int) (k : Nat) : cnt c xs k ≤ k := by
  induction k with
  | zero => simp [cnt]
  | succ k ih => simp only [cnt]; split <;> omega

theorem cnt_lt {c : Int} {xs : List Int} {k : Nat} (h : xs.getD k 0 < c) : cnt c xs (k + 1) = cnt c xs k := by
  simp only [cnt]; rw [if_neg (fun h => by omega)]; rfl
theorem cnt_seen {c : Int} {xs : List Int} {k : Nat} (h : seenTo xs k k = true) : cnt c xs (k + 1) = cnt c xs k := by
  simp only [cnt]; rw [if_neg (fun e => by simp [h] at e)]; rfl
theorem cnt_new {c : Int} {xs : List Int} {k : Nat} (h : ¬ xs.getD k 0 < c) (hs : seenTo xs k k = false) : cnt c xs (k + 1) = cnt c xs k + 1 := by
  simp only [cnt]; rw [if_pos ⟨by omega, hs⟩]

theorem cnt_zero (c : Int) (xs : List Int) (h : ∀ x ∈ xs, ¬ c ≤ x) (k : Nat) (hk : k ≤ xs.length) : cnt c xs k = 0 := by
  induction k with
  | zero => rfl
  | succ k ih =>
    have hm : xs.getD k 0 ∈ xs := by
      rw [List.getD_eq_getElem?_getD, List.getElem?_eq_getElem (by omega)]; exact List.getElem_mem _
    simp only [cnt]
    rw [ih (by omega), if_neg (fun e => h _ hm e.1)]

theorem cnt_step (c g : Int) (xs : List Int) (hc : c ≤ g) (hg : ∀ x ∈ xs, c ≤ x → g ≤ x) (k : Nat) (hk : k ≤ xs.length) :
    ((∃ t, t < k ∧ xs.getD t 0 = g) → cnt c xs k = cnt (g + 1) xs k + 1) ∧ (¬ (∃ t, t < k ∧ xs.getD t 0 = g) → cnt c xs k = cnt (g + 1) xs k) := by
  induction k with
  | zero => exact ⟨fun ⟨t, ht, _⟩ => by omega, fun _ => rfl⟩
  | succ k ih =>
    obtain ⟨i1, i2⟩ := ih (by omega)
    have hm : xs.getD k 0 ∈ xs := by
      rw [List.getD_eq_getElem?_getD, List.getElem?_eq_getElem (by omega)]; exact List.getElem_mem _
    have hx := hg _ hm
    have hseen := seenTo_iff xs k k
    simp only [cnt]
    generalize hX : xs.getD k 0 = X at *
    by_cases e : X = g
    · subst e
      refine ⟨fun _ => ?_, fun hn => absurd ⟨k, by omega, hX⟩ hn⟩
      by_cases hs : seenTo xs k k = true
      · rw [if_neg (fun h => by simp [hs] at h), if_neg (fun h => by simp [hs] at h), i1 (hseen.1 hs)]
      · rw [if_pos ⟨hc, by simpa using hs⟩, if_neg (fun h => by omega), i2 (fun h => hs (hseen.2 h))]
    · have e1 : (∃ t, t < k + 1 ∧ xs.getD t 0 = g) ↔ (∃ t, t < k ∧ xs.getD t 0 = g) := by
        constructor
        · rintro ⟨t, ht, et⟩
          refine ⟨t, ?_, et⟩
          by_cases h : t = k
          · exact absurd (by rw [← hX, ← h]; exact et) e
          · clear i1 i2 hseen hx hg; omega
        · rintro ⟨t, ht, et⟩; exact ⟨t, by omega, et⟩
      have e2 : (c ≤ X ∧ seenTo xs k k = false) ↔ (g + 1 ≤ X ∧ seenTo xs k k = false) := by
        constructor
        · rintro ⟨h1, h2⟩; exact ⟨by have := hx h1; omega, h2⟩
        · rintro ⟨h1, h2⟩; exact ⟨by omega, h2⟩
      rw [e1]
      refine ⟨fun h => ?_, fun h => ?_⟩
      · rw [i1 h]; simp only [e2]; omega
      · rw [i2 h]; simp only [e2]

theorem cnt_some {c g : Int} {xs : List Int} (h : best (c - 1) xs = some g) : cnt c xs xs.length = cnt (g + 1) xs xs.length + 1 := by
  obtain ⟨h1, h2, h3⟩ := best_some h
  refine (cnt_step c g xs h2 h3 xs.length (Nat.le_refl _)).1 ?_
  obtain ⟨t, ht, rfl⟩ := List.getElem_of_mem h1
  exact ⟨t, ht, by simp [List.getD_eq_getElem?_getD, ht]⟩
theorem cnt_none {c : Int} {xs : List Int} (h : best (c - 1) xs = none) : cnt c xs xs.length = 0 :=
  cnt_zero c xs (best_none h) _ (Nat.le_refl _)
theorem cnt_top (xs : List Int) (hf : Fit xs) : cnt (9223372036854775807 + 1) xs xs.length = 0 := by
  refine cnt_zero _ xs (fun x hx => ?_) _ (Nat.le_refl _)
  obtain ⟨t, ht, rfl⟩ := List.getElem_of_mem hx
  have := (hf t).2
  simp [List.getD_eq_getElem?_getD, ht] at this
  omega
end Go.Proofs.Qxb6612426a.Tm
