/-
  zzNextOf (11), atOrAfter (10), ZZatOrAfter (7).
-/
import Derived.Test.Qxb6612426aNext2
namespace Go.Proofs.Qxb6612426a.Tm
open Go.RowKit

/-- the cells of a slice of int64 -/
structure Rd (w : World) (xs : List Int) (A : Option Addr) (bs os : Nat) : Prop where
  hA : 0 < xs.length → A = some ⟨bs, os, none⟩
  hbs : 0 < xs.length → bs < w.heap.size
  hcell : ∀ k, k < xs.length → w.cell? ⟨bs, os + k, none⟩ = some (.int .i64 (xs.getD k 0))

theorem Rd.step {w w1 : World} {xs : List Int} {A : Option Addr} {bs os : Nat} (h : Rd w xs A bs os) (hb : Below w.heap.size w w1) : Rd w1 xs A bs os where
  hA := h.hA
  hbs := fun k => Nat.lt_of_lt_of_le (h.hbs k) hb.size
  hcell := fun k hk => by rw [hb.cell (p := ⟨bs, os + k, none⟩) (h.hbs (by omega))]; exact h.hcell k hk

/-- every number fits int64 -/
def Fit (xs : List Int) : Prop := ∀ k, -9223372036854775808 ≤ xs.getD k 0 ∧ xs.getD k 0 ≤ 9223372036854775807

theorem next_rd (a n s : Int) (ha : s * 1000000000 + n = a) (n0 : 0 ≤ n) (n1 : n < 1000000000) (xs : List Int) (A : Option Addr) (bx bs os cap : Nat) (w : World)
    (hl : xs.length ≤ 1048576) (hx : w.cell? ⟨bx, 0, none⟩ = some (.slice A xs.length cap)) (hbx : bx < w.heap.size) (hr : Rd w xs A bs os) (hf : Fit xs) :
    Calls Try.prog 15 #[.agg #[.int .u64 n, .int .i64 s, .pointer none], .pointer (some ⟨bx, 0, none⟩)] w fun e w' => e = .returned (.tuple #[tm ((best a xs).getD 0), .bool (best a xs).isSome]) ∧ Below w.heap.size w w' := by
  have h := next_any a n s ha n0 n1 xs A bx bs os xs.length cap w hr.hA hl (Nat.le_refl _) hx hbx hr.hbs hr.hcell hf
  rw [List.take_length] at h
  exact h

/-- one box more, and what Add made, kept from the walk's eyes -/
theorem below_box2 {w w1 : World} {o1 o2 : Obj} (hb1 : Below ((w.alloc o1).alloc o2).heap.size ((w.alloc o1).alloc o2) w1) : Below w.heap.size w w1 := by
  have h1 : Below w.heap.size w ((w.alloc o1).alloc o2) := ((Below.refl _ _).alloc (Nat.le_refl _) _).alloc (by simp) _
  exact h1.trans (hb1.mono h1.size)

theorem add_minus1 (a n s : Int) (ha : s * 1000000000 + n = a) (n0 : 0 ≤ n) (n1 : n < 1000000000) (a0 : -9223372036854775808 ≤ a) (a1 : a ≤ 9223372036854775807) (w : World) :
    Calls Try.prog 14 #[.agg #[.int .u64 n, .int .i64 s, .pointer none], .int .i64 (-1)] w fun e w' => e = .returned (.agg #[.int .u64 ((a - 1) % 1000000000), .int .i64 ((a - 1) / 1000000000), .pointer none]) ∧ Below w.heap.size w w' := by
  have h := add_any a (-1) (by omega) a1 (by omega) (by omega) w
  rw [tm_eq a n s ha n0 n1] at h
  exact h

set_option maxHeartbeats 400000 in
theorem nextOf_any (A : Option Addr) (n cap : Nat) (w : World) :
    Calls Try.prog 11 #[.slice A n cap] w fun e w' => e = .returned (.func (.func 15) #[] #[.pointer (some ⟨w.heap.size, 0, none⟩)]) ∧ w' = w.alloc (.cells #[.slice A n cap] 22) := by
  go_enter Try.func11, Try.ntmps11
  go_wp2
  go_ret
  exact ⟨rfl, rfl⟩

set_option maxHeartbeats 400000 in
theorem atOrAfter_any (a n s : Int) (ha : Hid (s * 1000000000 + n = a)) (n0 : 0 ≤ n) (n1 : n < 1000000000) (a0 : -9223372036854775808 ≤ a) (a1 : a ≤ 9223372036854775807) (xs : List Int) (A : Option Addr) (bx bs os cap : Nat) (w : World)
    (hl : xs.length ≤ 1048576) (hx : w.cell? ⟨bx, 0, none⟩ = some (.slice A xs.length cap)) (hbx : bx < w.heap.size) (hr : Hid (Rd w xs A bs os)) (hf : Hid (Fit xs)) :
    Calls Try.prog 10 #[.func (.func 15) #[] #[.pointer (some ⟨bx, 0, none⟩)], .agg #[.int .u64 n, .int .i64 s, .pointer none]] w fun e w' => e = .returned (.tuple #[tm ((best (a - 1) xs).getD 0), .bool (best (a - 1) xs).isSome]) ∧ Below w.heap.size w w' := by
  go_enter Try.func10, Try.ntmps10
  go_wp2_with fail
  refine (add_minus1 a n s ha.out n0 n1 a0 a1 _).mono ?_
  rintro e w1 ⟨rfl, hb1⟩
  have hb := below_box2 hb1
  have hx1 : w1.cell? ⟨bx, 0, none⟩ = some (.slice A xs.length cap) := by rw [hb.cell (p := ⟨bx, 0, none⟩) hbx]; exact hx
  go_wp2_with fail
  refine (next_rd (a - 1) _ _ (by omega) (by omega) (by omega) xs A bx bs os cap _ hl hx1 (Nat.lt_of_lt_of_le hbx hb.size) (hr.out.step hb) hf.out).mono ?_
  rintro e w2 ⟨rfl, hb2⟩
  have hbb := hb1.trans (hb2.mono hb1.size)
  obtain ⟨hc, hz⟩ := bcell hbb
  have HB : Hid (Below w.heap.size w w2) := below_box2 hbb
  unfold tm
  go_wp2_with fail
  refine bodyPost_ret (v := .tuple #[tm ((best (a - 1) xs).getD 0), .bool (best (a - 1) xs).isSome]) (by simp [results, Try.results10, go_sem, tm, hc]) rfl ⟨rfl, ?_⟩
  exact ((HB.out.setCell (by simp) _).setCell (by simp) _).setCell (by simp) _

theorem stp_mem (a : Int) (o : Option Int) (x m : Int) (h : stp a o x = some m) : m = x ∨ o = some m := by
  cases o with
  | none => simp only [stp] at h; split at h <;> simp_all
  | some k => simp only [stp] at h; split at h <;> simp_all
theorem foldl_mem (a : Int) (xs : List Int) (o : Option Int) (m : Int) (h : xs.foldl (stp a) o = some m) : m ∈ xs ∨ o = some m := by
  induction xs generalizing o with
  | nil => right; simpa using h
  | cons x xs ih =>
    rcases ih _ h with h | h
    · left; simp [h]
    · rcases stp_mem _ _ _ _ h with h | h
      · left; simp [h]
      · right; exact h
theorem best_fit (a : Int) (xs : List Int) (hf : Fit xs) : -9223372036854775808 ≤ (best a xs).getD 0 ∧ (best a xs).getD 0 ≤ 9223372036854775807 := by
  cases hb : best a xs with
  | none => simp
  | some m =>
    rcases foldl_mem a xs none m hb with h | h
    · obtain ⟨k, hk, rfl⟩ := List.getElem_of_mem h
      have := hf k
      simpa [List.getD_eq_getElem?_getD, hk] using this
    · simp at h

set_option maxHeartbeats 400000 in
theorem zzAtOrAfter_any (a : Int) (a0 : -9223372036854775808 ≤ a) (a1 : a ≤ 9223372036854775807) (xs : List Int) (A : Option Addr) (bs os cap : Nat) (w : World)
    (hl : xs.length ≤ 1048576) (hr : Hid (Rd w xs A bs os)) (hf : Hid (Fit xs)) :
    Calls Try.prog 7 #[.slice A xs.length cap, .int .i64 a] w fun e w' => e = .returned (.tuple #[.int .i64 ((best (a - 1) xs).getD 0), .bool (best (a - 1) xs).isSome]) ∧ Below w.heap.size w w' := by
  go_enter Try.func7, Try.ntmps7
  go_wp2_with fail
  refine (nextOf_any A xs.length cap _).mono ?_
  rintro e w1 ⟨rfl, rfl⟩
  go_wp2_with fail
  refine (zzAt_at a (a % 1000000000) (a / 1000000000) (by omega) (by omega) (by omega) a0 a1 _).mono ?_
  rintro e w1 ⟨rfl, hb1⟩
  have h1 : Below w.heap.size w (w.alloc (.cells #[.slice A xs.length cap] 22)) := (Below.refl _ _).alloc (Nat.le_refl _) _
  have hb := h1.trans (hb1.mono h1.size)
  have hx1 : w1.cell? ⟨w.heap.size, 0, none⟩ = some (.slice A xs.length cap) := by rw [hb1.cell (p := ⟨w.heap.size, 0, none⟩) (by simp)]; simp [go_sem]
  have hz1 : w.heap.size < w1.heap.size := by have := hb1.size; simp at this; omega
  go_wp2_with fail
  refine (atOrAfter_any a _ _ (by show _ = _; omega) (by omega) (by omega) a0 a1 xs A w.heap.size bs os cap _ hl hx1 hz1 (hr.out.step hb) hf.out).mono ?_
  rintro e w2 ⟨rfl, hb2⟩
  have HB : Hid (Below w.heap.size w w2) := hb.trans (hb2.mono hb.size)
  have hB := best_fit (a - 1) xs hf.out
  unfold tm
  go_wp2_with fail
  refine (zzNS_any ((best (a - 1) xs).getD 0) hB.1 hB.2 _).mono ?_
  rintro e w3 ⟨rfl, hb3⟩
  go_wp2_with fail
  go_ret2
  have h2 := HB.out.alloc (Nat.le_of_lt (Nat.lt_of_lt_of_le hz1 hb2.size)) (.cells #[.int .u64 ((best (a - 1) xs).getD 0 % 1000000000), .int .i64 ((best (a - 1) xs).getD 0 / 1000000000), .pointer none] 30)
  exact ⟨rfl, h2.trans (hb3.mono h2.size)⟩
end Go.Proofs.Qxb6612426a.Tm
