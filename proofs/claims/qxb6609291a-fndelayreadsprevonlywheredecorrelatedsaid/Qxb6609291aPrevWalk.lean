/-
  FnDelayReadsPrevOnlyWhereDecorrelated (6): the walk.
-/
import Derived.Test.Qxb6609291aLaws
namespace Go.Proofs.Qxb6609291a.Dl
open Go.RowKit Go.Proofs.Qxb6609291a.Pcg

set_option maxHeartbeats 1000000 in
theorem prev_big (j : ByteArray) (b m f v s1 s2 : Int) (w : World) (hn : 1048576 < j.size) :
    Calls Try.prog 6 #[.string j, .int .i64 b, .int .i64 m, .int .i64 f, .int .i64 v, .int .u64 s1, .int .u64 s2] w fun e w' => e = .returned (.bool true) ∧ Below w.heap.size w w' := by
  go_enter Try.func6, Try.ntmps6
  go_wp2_with fail
  refine (bytes12_no j b m f v s1 s2 _ hn).mono ?_
  rintro e w' ⟨rfl, hw⟩
  rw [hw]
  go_wp2_with fail
  go_ret
  exact ⟨rfl, Below.refl _ _⟩

set_option maxHeartbeats 1000000 in
theorem prev_out (j : ByteArray) (b m f v s1 s2 : Int) (w : World) (hn : j.size ≤ 1048576) (h : b < 1 ∨ (1 ≤ b ∧ m < b) ∨ (1 ≤ b ∧ b ≤ m ∧ (b == 9223372036854775807) = true) ∨ (1 ≤ b ∧ b ≤ m ∧ (b == 9223372036854775807) = false ∧ f < 1)) :
    Calls Try.prog 6 #[.string j, .int .i64 b, .int .i64 m, .int .i64 f, .int .i64 v, .int .u64 s1, .int .u64 s2] w fun e w' => e = .returned (.bool true) ∧ Below w.heap.size w w' := by
  rcases h with h | ⟨h1, h2⟩ | ⟨h1, h2, h3⟩ | ⟨h1, h2, h3, h4⟩
  all_goals
    go_enter Try.func6, Try.ntmps6
    go_wp2_with fail
    refine (bytes12_any j b m f v s1 s2 _ hn).mono ?_
    rintro e w' ⟨rfl, hw⟩
    rw [hw]
    clear hw w'
    go_wp2_with fail
    go_ret
    exact ⟨rfl, Below.refl _ _⟩

theorem below_more {w w1 w2 : World} (h : Below w.heap.size w w1) (k : Below w1.heap.size w1 w2) : Below w.heap.size w w2 := h.trans (k.mono h.size)

set_option maxHeartbeats 2000000 in
/-- prev is not looked at: both draws are one -/
theorem prev_same (j : ByteArray) (b m f v s1 s2 : Int) (w : World) (hn : j.size ≤ 1048576) (hb : 1 ≤ b) (hb' : b < 9223372036854775807) (hm : b ≤ m) (hm' : m ≤ 9223372036854775807) (hf : 1 ≤ f) (hf' : f ≤ 9223372036854775807) (hv : v ≤ 9223372036854775807)
    (a0 : 0 ≤ s1) (a1 : s1 ≤ 18446744073709551615) (b0 : 0 ≤ s2) (b1 : s2 ≤ 18446744073709551615)
    (h : (j.toList == [100, 101, 99, 111, 114, 114, 101, 108, 97, 116, 101, 100]) = false ∨ ((j.toList == [100, 101, 99, 111, 114, 114, 101, 108, 97, 116, 101, 100]) = true ∧ (f == 1) = true) ∨ ((j.toList == [100, 101, 99, 111, 114, 114, 101, 108, 97, 116, 101, 100]) = true ∧ (f == 1) = false ∧ v ≤ b)) :
    Calls Try.prog 6 #[.string j, .int .i64 b, .int .i64 m, .int .i64 f, .int .i64 v, .int .u64 s1, .int .u64 s2] w fun e w' => e = .returned (.bool true) ∧ Below w.heap.size w w' := by
  have hbM : (b == 9223372036854775807) = false := by rw [beq_eq_false_iff_ne]; omega
  have HL : Hid (isP j = false → isD j = true → lastOf b f v = lastOf b f 0) := fun _ hd => by
    rcases h with h | ⟨_, h⟩ | ⟨_, _, h⟩
    · rw [show isD j = false from h] at hd; cases hd
    · have : f = 1 := by simpa using h
      subst this; simp [lastOf]
    · unfold lastOf; split <;> (try split) <;> (try split) <;> omega
  rcases h with h | ⟨h1, h2⟩ | ⟨h1, h2, h3⟩
  all_goals
    go_enter Try.func6, Try.ntmps6
    go_wp2_with fail
    refine (bytes12_any j b m f v s1 s2 _ hn).mono ?_
    rintro e w' ⟨rfl, hw⟩
    rw [hw]
    clear hw w'
    go_wp2_with fail
    refine (zzDelay_any j b m f v s1 s2 hb hb' hm hm' hf hf' hv a0 a1 b0 b1 _).mono ?_
    rintro e w1 ⟨d, rfl, hd, hB⟩
    have HB : Hid (Below w.heap.size w w1) := hB
    have HD : Hid (DRel j b m f v (seed s1 s2) d) := hd
    clear hB hd
    go_wp2_with fail
    refine (zzDelay_any j b m f 0 s1 s2 hb hb' hm hm' hf hf' (by omega) a0 a1 b0 b1 _).mono ?_
    rintro e w2 ⟨d2, rfl, hd2, hB2⟩
    have HB2 : Hid (Below w.heap.size w w2) := below_more HB.out hB2
    obtain rfl := drel_prev HL.out HD.out hd2
    obtain ⟨p1, p2⟩ := drel_pos hb hb' hm hm' hv HD.out
    clear hd2 hB2
    go_wp2_with fail
    go_ret
    exact ⟨rfl, HB2.out⟩

set_option maxHeartbeats 2000000 in
theorem prev_dec (j : ByteArray) (b m f v s1 s2 : Int) (w : World) (hn : j.size ≤ 1048576) (hb : 1 ≤ b) (hb' : b < 9223372036854775807) (hm : b ≤ m) (hm' : m ≤ 9223372036854775807) (hf : 1 ≤ f) (hf' : f ≤ 9223372036854775807) (hv : v ≤ 9223372036854775807)
    (a0 : 0 ≤ s1) (a1 : s1 ≤ 18446744073709551615) (b0 : 0 ≤ s2) (b1 : s2 ≤ 18446744073709551615)
    (h1 : (j.toList == [100, 101, 99, 111, 114, 114, 101, 108, 97, 116, 101, 100]) = true) (h2 : (f == 1) = false) (h3 : b < v) :
    Calls Try.prog 6 #[.string j, .int .i64 b, .int .i64 m, .int .i64 f, .int .i64 v, .int .u64 s1, .int .u64 s2] w fun e w' => e = .returned (.bool true) ∧ Below w.heap.size w w' := by
  have hbM : (b == 9223372036854775807) = false := by rw [beq_eq_false_iff_ne]; omega
  have HP : Hid (isP j = false) := by
    have e : j.toList = [100, 101, 99, 111, 114, 114, 101, 108, 97, 116, 101, 100] := by simpa using h1
    show (j.toList == _) = false
    rw [e]; decide
  have hf1 : 1 < f := by have : f ≠ 1 := by simpa using h2
                         omega
  go_enter Try.func6, Try.ntmps6
  go_wp2_with fail
  refine (bytes12_any j b m f v s1 s2 _ hn).mono ?_
  rintro e w' ⟨rfl, hw⟩
  rw [hw]
  clear hw w'
  go_wp2_with fail
  refine (zzDelay_any j b m f v s1 s2 hb hb' hm hm' hf hf' hv a0 a1 b0 b1 _).mono ?_
  rintro e w1 ⟨d, rfl, hd, hB⟩
  have HB : Hid (Below w.heap.size w w1) := hB
  obtain ⟨p1, p2, p3⟩ := drel_dec hb hb' hm hv HP.out h1 hd
  rw [show lastOf b f v = v by unfold lastOf; rw [if_pos hf1, if_neg (by omega)]] at p3
  clear hB hd
  by_cases h4 : v ≤ 3074457345618258602
  · have p4 := p3 h4
    clear p3
    go_wp2_with fail
    go_ret
    exact ⟨rfl, HB.out⟩
  · clear p3
    go_wp2_with fail
    go_ret
    exact ⟨rfl, HB.out⟩
end Go.Proofs.Qxb6609291a.Dl
