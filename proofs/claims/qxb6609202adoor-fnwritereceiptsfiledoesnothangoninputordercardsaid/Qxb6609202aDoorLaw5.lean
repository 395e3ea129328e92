/-
  The first law (5).
-/
import Derived.Test.Qxb6609202aDoorArg
import Derived.Deep.CutRange
import Derived.Lib.LazyBuf
namespace Go.Proofs.Qxb6609202aDoor.Wr
open Go.RowKit Go.Lib Go.Sort

set_option maxHeartbeats 8000000 in
set_option maxRecDepth 100000 in
theorem law5_main (w : World) (p1 p2 p3 : Option Addr) (n c1 c2 c3 : Nat) (x y z : Array Int) (h1 : Hid (Arg w p1 n x)) (h2 : Hid (Arg w p2 n y)) (h3 : Hid (Arg w p3 n z)) (hsz : n ≤ 32768) (htab : Hid (Tb w.heap.size w)) :
    Calls Tryd.prog 5 #[.slice p1 n c1, .slice p2 n c2, .slice p3 n c3] w fun e w' => e = .returned (.bool true) ∧ Kp (fun _ => False) w w' := by
  have mk := make22 n (by omega)
  have hneq := fun (a : Option Addr) (k c : Nat) (W : World) => run_neq_slice_nil (P := Tryd.prog) W 22 3 a k c Tryd.underlying22
  go_enter Tryd.func5, Tryd.ntmps5
  go_upto_if 52 with (go_at_call 13; refine (bytes13_some p1 p2 p3 n n n c1 c2 c3 w (by omega) (by omega) (by omega)).mono ?_; rintro e w ⟨⟨b, rfl⟩, rfl⟩; cases b)
  · go_ret
    exact ⟨rfl, Kp.refl _ _⟩
  · go_cut [0] from 51 to 59 (fun s0 wx => ∃ (q : Option Addr) (c : Nat), s0 = .slice q n c ∧ Hid (Col wx q n x) ∧ Hid (Kp (fun _ => False) w wx))
    case first =>
      cases p1 with
      | none =>
        have hn := h1.out.nil rfl
        subst hn
        have HC : Hid (Col w none 0 x) := ⟨h1.out.sz, .inl rfl⟩
        go_wp2_with fail
        go_meet
        case rel => exact ⟨none, c1, rfl, HC, Kp.refl _ _⟩
      | some a =>
        obtain ⟨W', hr, hc, hk⟩ := copy_run (c := c1) h1.out
        have HC := Hid.lay hc
        have HK := Hid.lay hk
        clear hc hk
        go_wp2_with fail
        go_meet
        case rel => exact ⟨_, n, rfl, HC, HK⟩
    case rest =>
      obtain ⟨q1, d1, rfl, HC1, HK1⟩ := hcut
      replace h2 := Hid.lay (h2.out.keep HK1.out)
      go_upto_if 61 with fail
      go_cut [1] from 60 to 68 (fun s0 wx => ∃ (q : Option Addr) (c : Nat), s0 = .slice q n c ∧ Hid (Col wx q n y) ∧ Hid (Kp (fun _ => False) wc wx))
      case first =>
        cases p2 with
        | none =>
          have hn := h2.out.nil rfl
          subst hn
          have HC : Hid (Col wc none 0 y) := ⟨h2.out.sz, .inl rfl⟩
          go_wp2_with fail
          go_meet
          case rel => exact ⟨none, c2, rfl, HC, Kp.refl _ _⟩
        | some a =>
          obtain ⟨W', hr, hc, hk⟩ := copy_run (c := c2) h2.out
          have HC := Hid.lay hc
          have HK := Hid.lay hk
          clear hc hk
          go_wp2_with fail
          go_meet
          case rel => exact ⟨_, n, rfl, HC, HK⟩
      case rest =>
        obtain ⟨q2, d2, rfl, HC2, HK2⟩ := hcut
        replace HC1 := Hid.lay (HC1.out.keep HK2.out)
        replace HK1 := Hid.lay (HK1.out.trans HK2.out fun _ _ e => e)
        replace h3 := Hid.lay (h3.out.keep HK1.out)
        clear HK2
        go_upto_if 70 with fail
        go_cut [2] from 69 to 77 (fun s0 wx => ∃ (q : Option Addr) (c : Nat), s0 = .slice q n c ∧ Hid (Col wx q n z) ∧ Hid (Kp (fun _ => False) wc wx))
        case first =>
          cases p3 with
          | none =>
            have hn := h3.out.nil rfl
            subst hn
            have HC : Hid (Col wc none 0 z) := ⟨h3.out.sz, .inl rfl⟩
            go_wp2_with fail
            go_meet
            case rel => exact ⟨none, c3, rfl, HC, Kp.refl _ _⟩
          | some a =>
            obtain ⟨W', hr, hc, hk⟩ := copy_run (c := c3) h3.out
            have HC := Hid.lay hc
            have HK := Hid.lay hk
            clear hc hk
            go_wp2_with fail
            go_meet
            case rel => exact ⟨_, n, rfl, HC, HK⟩
        case rest =>
          obtain ⟨q3, d3, rfl, HC3, HK3⟩ := hcut
          replace HC1 := Hid.lay (HC1.out.keep HK3.out)
          replace HC2 := Hid.lay (HC2.out.keep HK3.out)
          replace HK1 := Hid.lay (HK1.out.trans HK3.out fun _ _ e => e)
          clear HK3 mk
          have HT := Hid.lay (htab.out.keep (Nat.le_refl _) HK1.out (fun _ e => e.elim))
          have HR : Hid (∀ i, i < n → Rng (x[i]!, y[i]!, z[i]!)) := fun i hi => ⟨h1.out.rng i hi, h2.out.rng i hi, h3.out.rng i hi⟩
          go_wp2_with (go_at_call 14; refine (zzw_any w.heap.size _ q1 q2 q3 n d1 d2 d3 x y z HC1 HC2 HC3 hsz HK1.out.size HT HR).mono ?_; rintro e w4 ⟨d', g1, g2, g3, a1, a2, a3, rfl, hp, hs, k1, k2, k3, hz, kk⟩; have HP := Hid.lay hp; have HS := Hid.lay hs; have K1 := Hid.lay k1; have K2 := Hid.lay k2; have K3 := Hid.lay k3; have HZ := Hid.lay hz; have KK := Hid.lay kk; clear hp hs k1 k2 k3 hz kk)
          clear htab HT hneq
          go_loopw [16] (fun s wx => ∃ j : Nat, s = .int .i64 ((j : Int) + 1) ∧ j ≤ n ∧ Hid (Kp (fun _ => False) w4 wx)) (fun s _ => n - (intOf s).toNat)
          case atStart => exact ⟨0, rfl, Nat.zero_le _, Kp.refl _ _⟩
          case round =>
            obtain ⟨j, rfl, hj, HW⟩ := hrel
            by_cases hjn : j + 1 < n
            · have hjn' : decide ((j : Int) + 1 < n) = true := by simp; omega
              have e1 := (K1.out.keep HW.out).cell (i := j) (by omega)
              have e2 := (K1.out.keep HW.out).cell (i := j + 1) (by omega)
              have f1 := (K2.out.keep HW.out).cell (i := j) (by omega)
              have f2 := (K2.out.keep HW.out).cell (i := j + 1) (by omega)
              have hlt := HS.out j (j + 1) (Nat.zero_le _) (by omega) hjn
              rw [← HZ.out, zip3_get _ _ _ (by omega), zip3_get _ _ _ (by omega), lt2_not] at hlt
              dsimp only at hlt
              generalize a1[j]! = u at *
              generalize a1[j + 1]! = u' at *
              generalize a2[j]! = v at *
              generalize a2[j + 1]! = v' at *
              have hd1 : decide (u' < u) = false := by simp; omega
              have hways : Hid ((u' == u) = false ∨ ((u' == u) = true ∧ decide (v' < v) = false)) := by
                by_cases e : u' = u
                · exact .inr ⟨by simpa using e, by simp; omega⟩
                · exact .inl (by simpa using e)
              clear hlt
              rcases hways.out with hb | ⟨hb, hd2⟩
              · go_wp2_with fail
                go_quiet (fail)
                go_wp2_with fail
                exact ⟨⟨j + 1, by simp, by omega, HW.out.drew nq⟩, by simp [intOf]; omega⟩
              · go_wp2_with fail
                go_quiet (fail)
                go_wp2_with fail
                exact ⟨⟨j + 1, by simp, by omega, HW.out.drew nq⟩, by simp [intOf]; omega⟩
            · have hjn' : decide ((j : Int) + 1 < n) = false := by simp; omega
              go_wp2_with fail
              refine (trip_any wr _ _ _ n n n n a1 a2 a3 (Hid.lay (K1.out.keep HW.out)) (Hid.lay (K2.out.keep HW.out)) (Hid.lay (K3.out.keep HW.out)) hsz).mono ?_
              rintro e w5 ⟨go, rfl, ro, fo, ko⟩
              rw [HZ.out] at ro
              have HW5 := Hid.lay ((KK.out.trans HW.out fun _ _ e => e).trans ko fun _ _ e => e)
              have HO5 := Hid.lay ro
              clear ro ko HW K1 K2 K3 KK
              go_wp2_with fail
              refine (trip_any w5 q1 q2 q3 n d1 d2 d3 x y z (Hid.lay (HC1.out.keep HW5.out)) (Hid.lay (HC2.out.keep HW5.out)) (Hid.lay (HC3.out.keep HW5.out)) hsz).mono ?_
              rintro e w6 ⟨gi, rfl, ri, fi, ki⟩
              replace HO5 := Hid.lay (HO5.out.keep ki (fun e => e))
              replace HW5 := Hid.lay (HW5.out.trans ki fun _ _ e => e)
              have HI := Hid.lay ri
              clear ri ki
              go_wp2_with fail
              refine (msort_any w6 gi n n (zip3 n x y z) HI (zip3_size n x y z) hsz).mono ?_
              rintro e w7 ⟨gw, dw, rfl, rw7, sw7, tw7, pw7, fw7, kw7⟩
              replace HO5 := Hid.lay (HO5.out.keep kw7 (fun e => e))
              replace HW5 := Hid.lay (HW5.out.trans kw7 fun _ _ e => e)
              have HWt := Hid.lay rw7
              clear rw7 kw7 HI
              have hd' : d'.size = n := HP.out.1.trans (zip3_size n x y z)
              go_wp2_with fail
              refine (msort_any w7 go n n d' HO5 hd' hsz).mono ?_
              rintro e w8 ⟨gg, dg, rfl, rw8, sw8, tw8, pw8, fw8, kw8⟩
              replace HO5 := Hid.lay (HO5.out.keep kw8 (fun e => e))
              replace HW5 := Hid.lay (HW5.out.trans kw8 fun _ _ e => e)
              replace HWt := Hid.lay (HWt.out.keep kw8 (fun e => e))
              have HGt := Hid.lay rw8
              have hperm := perm_of_in (d := zip3 n x y z) (d' := d') (by rw [zip3_size]; exact HP.out)
              have heq : dg = dw := by
                have := srt_unique tw8 tw7 (pw8.trans (hperm.trans pw7.symm))
                exact Array.ext' this
              have HRd : Hid (∀ v ∈ d'.toList, Rng v) := fun v hv => Rng.zip HR.out v (hperm.mem_iff.1 hv)
              subst heq
              clear rw8 kw8 tw7 tw8 pw7 pw8 hperm
              go_wp2_with fail
              go_loopw [20] (fun s wx => ∃ k : Nat, s = .int .i64 k ∧ k ≤ n ∧ Hid (Kp (fun _ => False) w8 wx)) (fun s _ => n - (intOf s).toNat)
              case atStart => exact ⟨0, rfl, Nat.zero_le _, Kp.refl _ _⟩
              case round =>
                obtain ⟨k, rfl, hk, HX⟩ := hrel
                by_cases hkn : k < n
                · have hkn' : decide ((k : Int) < n) = true := by simp; omega
                  obtain ⟨r1, r2, r3⟩ := (HWt.out.keep HX.out (fun e => e)).cells k (by omega)
                  obtain ⟨s1, s2, s3⟩ := (HGt.out.keep HX.out (fun e => e)).cells k (by omega)
                  generalize dg[k]! = V at *
                  obtain ⟨V1, V2, V3⟩ := V
                  dsimp only at *
                  go_wp2_with fail
                  go_quiet (fail)
                  go_wp2_with fail
                  exact ⟨⟨k + 1, by simp, hkn, HX.out.drew nq⟩, by simp [intOf]; omega⟩
                · have hkn' : decide ((k : Int) < n) = false := by simp; omega
                  go_wp2_with fail
                  refine (render_any wr go n n d' (Hid.lay (HO5.out.keep HX.out (fun e => e))) hd' hsz HRd).mono ?_
                  rintro e w9 ⟨rfl, k9⟩
                  have HK9 := Hid.lay ((HK1.out.trans (HW5.out.trans HX.out fun _ _ e => e) fun _ _ e => e).trans k9 fun _ _ e => e)
                  clear k9
                  go_wp2_with fail
                  go_ret
                  exact ⟨by simp, HK9.out⟩

set_option maxHeartbeats 4000000 in
set_option maxRecDepth 100000 in
theorem law5_any (w : World) (p1 p2 p3 : Option Addr) (n1 n2 n3 c1 c2 c3 : Nat) (x y z : Array Int) (h1 : Hid (Arg w p1 n1 x)) (h2 : Hid (Arg w p2 n2 y)) (h3 : Hid (Arg w p3 n3 z)) (htab : Hid (Tb w.heap.size w))
    (b1 : n1 ≤ 9223372036854775807) (b2 : n2 ≤ 9223372036854775807) (b3 : n3 ≤ 9223372036854775807) :
    Calls Tryd.prog 5 #[.slice p1 n1 c1, .slice p2 n2 c2, .slice p3 n3 c3] w fun e w' => e = .returned (.bool true) ∧ Kp (fun _ => False) w w' := by
  by_cases hall : n1 ≤ 32768 ∧ n2 = n1 ∧ n3 = n1
  · obtain ⟨hsz, rfl, rfl⟩ := hall
    exact law5_main w p1 p2 p3 _ c1 c2 c3 x y z h1 h2 h3 hsz htab
  · go_enter Tryd.func5, Tryd.ntmps5
    go_upto_if 25 with (go_at_call 13; refine (bytes13_some p1 p2 p3 n1 n2 n3 c1 c2 c3 w b1 b2 b3).mono ?_; rintro e w ⟨⟨b, rfl⟩, rfl⟩)
    cases b with
    | false =>
      go_wp2_with fail
      go_ret
      exact ⟨rfl, Kp.refl _ _⟩
    | true =>
      by_cases g1 : 32768 < n1
      · have g1' : decide ((32768 : Int) < n1) = true := by simp; omega
        go_wp2_with fail
        go_ret
        exact ⟨rfl, Kp.refl _ _⟩
      · have g1' : decide ((32768 : Int) < n1) = false := by simp; omega
        by_cases g2 : 32768 < n2
        · have g2' : decide ((32768 : Int) < n2) = true := by simp; omega
          go_wp2_with fail
          go_ret
          exact ⟨rfl, Kp.refl _ _⟩
        · have g2' : decide ((32768 : Int) < n2) = false := by simp; omega
          by_cases g3 : 32768 < n3
          · have g3' : decide ((32768 : Int) < n3) = true := by simp; omega
            go_wp2_with fail
            go_ret
            exact ⟨rfl, Kp.refl _ _⟩
          · have g3' : decide ((32768 : Int) < n3) = false := by simp; omega
            by_cases e2 : n2 = n1
            · have e2' : ((n2 : Int) != n1) = false := by simp [e2]
              have e3' : ((n3 : Int) != n1) = true := by simp; omega
              clear e2
              go_wp2_with fail
              go_ret
              exact ⟨rfl, Kp.refl _ _⟩
            · have e2' : ((n2 : Int) != n1) = true := by simp; omega
              go_wp2_with fail
              go_ret
              exact ⟨rfl, Kp.refl _ _⟩
end Go.Proofs.Qxb6609202aDoor.Wr
