/-
  FnDelayWithinItsSchedule (5): the walk.
-/
import Derived.Test.Qxb6609291aLaws
namespace Go.Proofs.Qxb6609291a.Dl
open Go.RowKit Go.Proofs.Qxb6609291a.Pcg

set_option maxHeartbeats 1000000 in
theorem within_big (j : ByteArray) (b m f v s1 s2 : Int) (w : World) (hn : 1048576 < j.size) :
    Calls Try.prog 5 #[.string j, .int .i64 b, .int .i64 m, .int .i64 f, .int .i64 v, .int .u64 s1, .int .u64 s2] w fun e w' => e = .returned (.bool true) ∧ Below w.heap.size w w' := by
  go_enter Try.func5, Try.ntmps5
  go_wp2_with fail
  refine (bytes9_no j b m f v s1 s2 _ hn).mono ?_
  rintro e w' ⟨rfl, hw⟩
  rw [hw]
  go_wp2_with fail
  go_ret
  exact ⟨rfl, Below.refl _ _⟩

set_option maxHeartbeats 1000000 in
theorem within_out (j : ByteArray) (b m f v s1 s2 : Int) (w : World) (hn : j.size ≤ 1048576) (h : b < 1 ∨ (1 ≤ b ∧ m < b) ∨ (1 ≤ b ∧ b ≤ m ∧ (b == 9223372036854775807) = true) ∨ (1 ≤ b ∧ b ≤ m ∧ (b == 9223372036854775807) = false ∧ f < 1)) :
    Calls Try.prog 5 #[.string j, .int .i64 b, .int .i64 m, .int .i64 f, .int .i64 v, .int .u64 s1, .int .u64 s2] w fun e w' => e = .returned (.bool true) ∧ Below w.heap.size w w' := by
  rcases h with h | ⟨h1, h2⟩ | ⟨h1, h2, h3⟩ | ⟨h1, h2, h3, h4⟩
  all_goals
    go_enter Try.func5, Try.ntmps5
    go_wp2_with fail
    refine (bytes9_any j b m f v s1 s2 _ hn).mono ?_
    rintro e w' ⟨rfl, hw⟩
    rw [hw]
    clear hw w'
    go_wp2_with fail
    go_ret
    exact ⟨rfl, Below.refl _ _⟩

set_option maxHeartbeats 2000000 in
theorem within_in (j : ByteArray) (b m f v s1 s2 : Int) (w : World) (hn : j.size ≤ 1048576) (hb : 1 ≤ b) (hb' : b < 9223372036854775807) (hm : b ≤ m) (hm' : m ≤ 9223372036854775807) (hf : 1 ≤ f) (hf' : f ≤ 9223372036854775807) (hv : v ≤ 9223372036854775807)
    (a0 : 0 ≤ s1) (a1 : s1 ≤ 18446744073709551615) (b0 : 0 ≤ s2) (b1 : s2 ≤ 18446744073709551615) :
    Calls Try.prog 5 #[.string j, .int .i64 b, .int .i64 m, .int .i64 f, .int .i64 v, .int .u64 s1, .int .u64 s2] w fun e w' => e = .returned (.bool true) ∧ Below w.heap.size w w' := by
  have hbM : (b == 9223372036854775807) = false := by rw [beq_eq_false_iff_ne]; omega
  go_enter Try.func5, Try.ntmps5
  go_wp2_with fail
  refine (bytes9_any j b m f v s1 s2 _ hn).mono ?_
  rintro e w' ⟨rfl, hw⟩
  rw [hw]
  clear hw w'
  go_wp2_with fail
  refine (zzDelay_any j b m f v s1 s2 hb hb' hm hm' hf hf' hv a0 a1 b0 b1 _).mono ?_
  rintro e w1 ⟨d, rfl, hd, hB⟩
  have HB : Hid (Below w.heap.size w w1) := hB
  have HD : Hid (DRel j b m f v (seed s1 s2) d) := hd
  clear hB hd
  go_wp2_with fail
  refine (zzNominal_any b m f hb hm hm' hf hf' _).mono ?_
  rintro e w2 ⟨rfl, hw⟩
  rw [hw]
  clear hw w2
  obtain ⟨N0, N1⟩ := nm_bounds hb hm (f.toNat - 1)
  cases hj : isP j with
  | true =>
    obtain ⟨p1, p2⟩ := drel_prop hb hm hm' hj HD.out
    have hj' : (j.toList == [112, 114, 111, 112, 111, 114, 116, 105, 111, 110, 97, 108]) = true := hj
    clear hj HD
    generalize nm b m (f.toNat - 1) = n at *
    by_cases hz : n / 2 = 0
    · have hz' : (n / 2 == 0) = true := by simpa using hz
      have p3 := p1 hz
      have p4 : (d == n - n / 4) = true := by simpa using p3
      clear p1 p2 p3 hz
      go_wp2_with fail
      go_ret
      exact ⟨rfl, HB.out⟩
    · have hz' : (n / 2 == 0) = false := by simpa using hz
      obtain ⟨p3, p4, p5⟩ := p2 hz
      clear p1 p2 hz
      go_wp2_with fail
      go_ret
      exact ⟨rfl, HB.out⟩
  | false =>
    have hj' : (j.toList == [112, 114, 111, 112, 111, 114, 116, 105, 111, 110, 97, 108]) = false := hj
    cases hk : isD j with
    | true =>
      have hk' : (j.toList == [100, 101, 99, 111, 114, 114, 101, 108, 97, 116, 101, 100]) = true := hk
      obtain ⟨p1, p2, p3⟩ := drel_dec hb hb' hm hv hj hk HD.out
      clear hj hk HD
      by_cases h1 : 1 < f
      · by_cases h2 : b < v
        · rw [show lastOf b f v = v by unfold lastOf; rw [if_pos h1, if_neg (by omega)]] at p3
          by_cases h3 : v ≤ 3074457345618258602
          · have p4 := p3 h3
            clear p3
            go_wp2_with fail
            go_ret
            exact ⟨rfl, HB.out⟩
          · clear p3
            go_wp2_with fail
            go_ret
            exact ⟨rfl, HB.out⟩
        · rw [show lastOf b f v = b by unfold lastOf; rw [if_pos h1]; split <;> omega] at p3
          by_cases h3 : b ≤ 3074457345618258602
          · have p4 := p3 h3
            clear p3
            go_wp2_with fail
            go_ret
            exact ⟨rfl, HB.out⟩
          · clear p3
            go_wp2_with fail
            go_ret
            exact ⟨rfl, HB.out⟩
      · rw [show lastOf b f v = b by unfold lastOf; rw [if_neg h1]] at p3
        by_cases h3 : b ≤ 3074457345618258602
        · have p4 := p3 h3
          clear p3
          go_wp2_with fail
          go_ret
          exact ⟨rfl, HB.out⟩
        · clear p3
          go_wp2_with fail
          go_ret
          exact ⟨rfl, HB.out⟩
    | false =>
      have hk' : (j.toList == [100, 101, 99, 111, 114, 114, 101, 108, 97, 116, 101, 100]) = false := hk
      obtain ⟨p1, p2, p3⟩ := drel_add hb hb' hm hj hk HD.out
      clear hj hk HD
      generalize nm b m (f.toNat - 1) = n at *
      go_wp2_with fail
      go_ret
      exact ⟨rfl, HB.out⟩
end Go.Proofs.Qxb6609291a.Dl
