/-
  (*Rand).uint64n (20), (*Rand).Int64N (19).
-/
import Derived.Test.Qxb6609291aRng
import Derived.Deep.LoopGhost
namespace Go.Proofs.Qxb6609291a.Pcg
open Go.RowKit

theorem grown_trans {a b c : World} {row : Option Nat} (h : a.grownBy b row) (k : b.grownBy c row) : a.grownBy c row :=
  ⟨k.os.trans h.os, k.tape.trans h.tape, k.output.trans h.output, Nat.le_trans h.size k.size, fun i hi hne => (k.block i (Nat.lt_of_lt_of_le hi h.size) hne).trans (h.block i hi hne)⟩

set_option maxHeartbeats 1000000 in
theorem pow2_any (n : Int) (n0 : 0 < n) (n1 : n < 9223372036854775808) (r p X : Nat) (w : World) (hg : Hid (Rng w r p X)) (hp : Hid (bits .and .u64 n (n - 1) = 0)) :
    Calls Try.prog 20 #[.pointer (some ⟨r, 0, none⟩), .int .u64 n] w fun e w' => ∃ v X', e = .returned (.int .u64 v) ∧ Drawn n X v X' ∧ Rng w' r p X' ∧ w.grownBy w' (some p) := by
  have hp' := hp.out
  go_enter Try.func20, Try.ntmps20
  go_wp2_with (go_at_call 22; refine (uint64_any r p X _ hg).mono ?_; rintro e w' ⟨rfl, hg', hgr⟩)
  go_ret
  exact ⟨_, _, rfl, .inl ⟨hp.out, rfl, rfl⟩, hg', hgr⟩

/-- the k-th draw's high and low word -/
def qOf (n : Int) (X k : Nat) : Int := out (st X (k + 1)) * n / 18446744073709551616
def lOf (n : Int) (X k : Nat) : Int := out (st X (k + 1)) * n % 18446744073709551616
theorem lOf_word (n : Int) (X k : Nat) : 0 ≤ lOf n X k ∧ lOf n X k < 18446744073709551616 := ⟨Int.emod_nonneg _ (by omega), Int.emod_lt_of_pos _ (by omega)⟩
theorem thr_eq (n : Int) (n0 : 0 < n) (n1 : n < 9223372036854775808) : (IntKind.u64.wrap (-n)).tmod n = thr n := by
  rw [IntKind.wrap_u64, show (-n) % 18446744073709551616 = 18446744073709551616 - n by omega, Int.tmod_eq_emod_of_nonneg (by omega)]
  rfl

theorem drawn_at {n : Int} {X : Nat} (hp : bits .and .u64 n (n - 1) ≠ 0) (k : Nat) (hj : ∀ j, j < k → rej n (st X (j + 1))) (h : thr n ≤ lOf n X k) : Drawn n X (qOf n X k) (st X (k + 1)) :=
  .inr ⟨hp, k, hj, fun e => by have : lOf n X k < thr n := e; omega, rfl, rfl⟩

set_option maxHeartbeats 1000000 in
theorem rej_any (n : Int) (n0 : 0 < n) (n1 : n < 9223372036854775808) (r p X : Nat) (w : World) (hg : Hid (Rng w r p X)) (hp : Hid (bits .and .u64 n (n - 1) ≠ 0)) :
    Calls Try.prog 20 #[.pointer (some ⟨r, 0, none⟩), .int .u64 n] w fun e w' => ∃ v X', e = .returned (.int .u64 v) ∧ Drawn n X v X' ∧ Rng w' r p X' ∧ w.grownBy w' (some p) := by
  have hp' : (bits .and .u64 n (n - 1) == 0) = false := by simpa using hp.out
  obtain ⟨o0, o1⟩ := out_word (nxt X)
  go_enter Try.func20, Try.ntmps20
  go_wp2_with fail
  refine (uint64_any r p X _ hg).mono ?_
  rintro e w' ⟨rfl, hg', hgr⟩
  have HG' : Hid (Rng w' r p (nxt X)) := hg'
  have HGR : Hid (w.grownBy w' (some p)) := hgr
  clear hg' hgr hg
  go_wp2_with fail
  refine (mul64_any _ _ o0 o1 (by omega) (by omega) _).mono ?_
  rintro e w2 ⟨rfl, hw⟩
  rw [hw]
  clear hw w2
  obtain ⟨K, hK⟩ := acc_ex n n0 n1 X
  have HK : Hid (¬ rej n (st X (K + 1))) := hK
  have HT : Hid ((IntKind.u64.wrap (-n)).tmod n = thr n) := thr_eq n n0 n1
  have ht := thr_lt n n0
  have hQ : out (nxt X) * n / 18446744073709551616 = qOf n X 0 := rfl
  have hL : out (nxt X) * n % 18446744073709551616 = lOf n X 0 := rfl
  rw [hQ, hL]
  obtain ⟨L0, L1⟩ := lOf_word n X 0
  clear hQ hL o0 o1 hK
  by_cases hlt : lOf n X 0 < n
  · go_wp2_with fail
    rw [HT.out]
    go_loopg [5, 6] K (fun g hi lo wr => ∃ k : Nat, k + g = K ∧ Hid (∀ j, j < k → rej n (st X (j + 1))) ∧ hi = .int .u64 (qOf n X k) ∧ lo = .int .u64 (lOf n X k) ∧ Hid (Rng wr r p (st X (k + 1))) ∧ Hid (w.grownBy wr (some p)))
    case atStart => exact ⟨0, by omega, fun j hj => by omega, rfl, rfl, HG', HGR⟩
    case round =>
      obtain ⟨k, hkg, HJ, rfl, rfl, HR, HW⟩ := hrel
      have hR : rej n (st X (k + 1)) ↔ lOf n X k < thr n := Iff.rfl
      have HRJ : Hid (rej n (st X (k + 1)) ↔ lOf n X k < thr n) := hR
      have HKG : Hid (k + gk = K) := hkg
      clear hR hkg
      obtain ⟨M0, M1⟩ := lOf_word n X k
      by_cases hrj : lOf n X k < thr n
      · have hlt : k < K := by
          rcases Nat.lt_or_ge k K with h | h
          · exact h
          · have : k = K := by have := HKG.out; omega
            subst this
            exact absurd (HRJ.out.2 hrj) HK.out
        obtain ⟨o0, o1⟩ := out_word (nxt (st X (k + 1)))
        go_wp2_with fail
        refine (uint64_any r p (st X (k + 1)) _ HR).mono ?_
        rintro e w3 ⟨rfl, hg3, hgr3⟩
        have HG3 : Hid (Rng w3 r p (nxt (st X (k + 1)))) := hg3
        have HW3 : Hid (w.grownBy w3 (some p)) := grown_trans HW.out hgr3
        clear hg3 hgr3
        go_wp2_with fail
        refine (mul64_any _ _ o0 o1 (by omega) (by omega) _).mono ?_
        rintro e w4 ⟨rfl, hw⟩
        rw [hw]
        clear hw w4
        have hQ : out (nxt (st X (k + 1))) * n / 18446744073709551616 = qOf n X (k + 1) := rfl
        have hL : out (nxt (st X (k + 1))) * n % 18446744073709551616 = lOf n X (k + 1) := rfl
        rw [hQ, hL]
        clear hQ hL
        go_wp2_with fail
        go_roundg (gk - 1)
        case measure => have := HKG.out; omega
        case rel => exact ⟨k + 1, by have := HKG.out; omega, fun j hj => by
          by_cases e : j = k
          · rw [e]; exact HRJ.out.2 hrj
          · exact HJ.out j (by omega), rfl, rfl, HG3, HW3⟩
      · go_wp2_with fail
        go_ret
        exact ⟨qOf n X k, rfl, st X (k + 1), drawn_at hp.out k HJ.out (by omega), HR.out, HW.out⟩
  · have HD : Hid (Drawn n X (qOf n X 0) (st X 1)) := drawn_at hp.out 0 (fun j hj => by omega) (by omega)
    clear ht HT HK
    generalize lOf n X 0 = L at *
    generalize qOf n X 0 = Q at *
    go_wp2_with fail
    go_ret
    exact ⟨Q, st X 1, rfl, HD.out, HG'.out, HGR.out⟩

theorem uint64n_any (n : Int) (n0 : 0 < n) (n1 : n < 9223372036854775808) (r p X : Nat) (w : World) (hg : Rng w r p X) :
    Calls Try.prog 20 #[.pointer (some ⟨r, 0, none⟩), .int .u64 n] w fun e w' => ∃ v X', e = .returned (.int .u64 v) ∧ Drawn n X v X' ∧ Rng w' r p X' ∧ w.grownBy w' (some p) := by
  by_cases h : bits .and .u64 n (n - 1) = 0
  · exact pow2_any n n0 n1 r p X w hg h
  · exact rej_any n n0 n1 r p X w hg h

set_option maxHeartbeats 1000000 in
theorem int64N_any (n : Int) (n0 : 0 < n) (n1 : n ≤ 9223372036854775807) (r p X : Nat) (w : World) (hg : Hid (Rng w r p X)) :
    Calls Try.prog 19 #[.pointer (some ⟨r, 0, none⟩), .int .i64 n] w fun e w' => ∃ v X', e = .returned (.int .i64 v) ∧ Drawn n X v X' ∧ Rng w' r p X' ∧ w.grownBy w' (some p) := by
  go_enter Try.func19, Try.ntmps19
  go_wp2_with fail
  refine (uint64n_any n n0 (by omega) r p X _ hg.out).mono ?_
  rintro e w' ⟨v, X', rfl, hd, hg', hgr⟩
  obtain ⟨v0, v1⟩ := hd.range n0 (by omega)
  have HD : Hid (Drawn n X v X') := hd
  have HG : Hid (Rng w' r p X') := hg'
  have HW : Hid (w.grownBy w' (some p)) := hgr
  clear hd hg' hgr hg
  go_wp2_with fail
  go_ret
  exact ⟨v, X', rfl, HD.out, HG.out, HW.out⟩
end Go.Proofs.Qxb6609291a.Pcg
