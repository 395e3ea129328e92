/-
  The second law (6).
-/
import Derived.Test.Qxb6609202aDoorLaw5
namespace Go.Proofs.Qxb6609202aDoor.Wr
open Go.RowKit Go.Lib Go.Sort

/-- three columns being filled with x, y, z backwards -/
structure Rv (w2 wr : World) (g1 g2 g3 n i : Nat) (x y z a1 a2 a3 : Array Int) : Prop where
  r1 : IR wr g1 a1
  r2 : IR wr g2 a2
  r3 : IR wr g3 a3
  s1 : a1.size = n
  s2 : a2.size = n
  s3 : a3.size = n
  e1 : ∀ j, j < i → a1[j]! = x[n - 1 - j]!
  e2 : ∀ j, j < i → a2[j]! = y[n - 1 - j]!
  e3 : ∀ j, j < i → a3[j]! = z[n - 1 - j]!
  f1 : w2.heap.size ≤ g1
  f2 : w2.heap.size ≤ g2
  f3 : w2.heap.size ≤ g3
  kp : Kp (fun _ => False) w2 wr

theorem Rv.start (w2 : World) (n : Nat) (x y z : Array Int) (T1 T2 T3 : TypeId) :
    Rv w2 (((w2.alloc (.cells (madeCells #[.int .i64 0] n) T1)).alloc (.cells (madeCells #[.int .i64 0] n) T2)).alloc (.cells (madeCells #[.int .i64 0] n) T3)) w2.heap.size (w2.heap.size + 1) (w2.heap.size + 1 + 1) n 0 x y z (Array.replicate n 0) (Array.replicate n 0) (Array.replicate n 0) := by
  have k1 := Kp.alloc' w2 (.cells (madeCells #[.int .i64 0] n) T1)
  have k2 := Kp.alloc' (w2.alloc (.cells (madeCells #[.int .i64 0] n) T1)) (.cells (madeCells #[.int .i64 0] n) T2)
  have k3 := Kp.alloc' ((w2.alloc (.cells (madeCells #[.int .i64 0] n) T1)).alloc (.cells (madeCells #[.int .i64 0] n) T2)) (.cells (madeCells #[.int .i64 0] n) T3)
  have m1 := IR.made n w2 T1
  have m2 := IR.made n (w2.alloc (.cells (madeCells #[.int .i64 0] n) T1)) T2
  have m3 := IR.made n ((w2.alloc (.cells (madeCells #[.int .i64 0] n) T1)).alloc (.cells (madeCells #[.int .i64 0] n) T2)) T3
  simp only [World.size_alloc] at m2 m3
  exact ⟨(m1.keep k2 (fun e => e)).keep k3 (fun e => e), m2.keep k3 (fun e => e), m3, by simp, by simp, by simp,
    fun _ h => absurd h (Nat.not_lt_zero _), fun _ h => absurd h (Nat.not_lt_zero _), fun _ h => absurd h (Nat.not_lt_zero _), Nat.le_refl _, by omega, by omega, (k1.trans k2 fun _ _ e => e).trans k3 fun _ _ e => e⟩

theorem Rv.step {w2 wr : World} {g1 g2 g3 n i : Nat} {x y z a1 a2 a3 : Array Int} (h : Rv w2 wr g1 g2 g3 n i x y z a1 a2 a3) (hi : i < n) (h12 : g1 ≠ g2) (h13 : g1 ≠ g3) (h23 : g2 ≠ g3) :
    Rv w2 (((wr.setCell ⟨g1, i, none⟩ (.int .i64 x[n - 1 - i]!)).setCell ⟨g2, i, none⟩ (.int .i64 y[n - 1 - i]!)).setCell ⟨g3, i, none⟩ (.int .i64 z[n - 1 - i]!)) g1 g2 g3 n (i + 1) x y z (a1.set! i x[n - 1 - i]!) (a2.set! i y[n - 1 - i]!) (a3.set! i z[n - 1 - i]!) := by
  have f1 := h.f1; have f2 := h.f2; have f3 := h.f3; have s1 := h.s1; have s2 := h.s2; have s3 := h.s3
  obtain ⟨p1, q1⟩ := h.r1.put i (by omega) x[n - 1 - i]!
  obtain ⟨p2, q2⟩ := (h.r2.keep q1 (Ne.symm h12)).put i (by omega) y[n - 1 - i]!
  obtain ⟨p3, q3⟩ := ((h.r3.keep q1 (Ne.symm h13)).keep q2 (Ne.symm h23)).put i (by omega) z[n - 1 - i]!
  refine ⟨(p1.keep q2 h12).keep q3 h13, p2.keep q3 h23, p3, by simpa using s1, by simpa using s2, by simpa using s3, fun j hj => ?_, fun j hj => ?_, fun j hj => ?_, f1, f2, f3,
    ((h.kp.trans q1 fun k hk e => by omega).trans q2 fun k hk e => by omega).trans q3 fun k hk e => by omega⟩
  · by_cases e : j = i
    · subst e; exact seti_self a1 _ (by omega)
    · rw [seti_ne a1 _ e (by omega)]; exact h.e1 j (by omega)
  · by_cases e : j = i
    · subst e; exact seti_self a2 _ (by omega)
    · rw [seti_ne a2 _ e (by omega)]; exact h.e2 j (by omega)
  · by_cases e : j = i
    · subst e; exact seti_self a3 _ (by omega)
    · rw [seti_ne a3 _ e (by omega)]; exact h.e3 j (by omega)

theorem Rv.perm {w2 wr : World} {g1 g2 g3 n : Nat} {x y z a1 a2 a3 : Array Int} (h : Rv w2 wr g1 g2 g3 n n x y z a1 a2 a3) : (zip3 n a1 a2 a3).toList.Perm (zip3 n x y z).toList := by
  have e : zip3 n a1 a2 a3 = (zip3 n x y z).reverse := by
    refine Array.ext (by simp [zip3_size]) fun t h1 h2 => ?_
    have ht : t < n := by simpa [zip3_size] using h1
    rw [← bang_get _ h1, zip3_get _ _ _ ht, h.e1 t ht, h.e2 t ht, h.e3 t ht, ← zip3_get x y z (by omega : n - 1 - t < n), bang_get _ (by rw [zip3_size]; omega), Array.getElem_reverse]
    simp [zip3_size]
  rw [e, Array.toList_reverse]
  exact List.reverse_perm _

/-- what law 6 leans on: both files are the keys' -/
theorem file_keys {n : Nat} {d d' k : Array R3} (hd : d.size = n) (hk : Srt k.toList) (hkz : k.size = n) (hkp : k.toList.Perm d.toList) (hne : ∀ i, i + 1 < n → ¬ (k[i + 1]!.1 = k[i]!.1 ∧ k[i + 1]!.2.1 = k[i]!.2.1)) (hp : PermIn 0 n d d') (hs : SortedIn lt2 0 n d') : d' = k := by
  have hd' : d'.size = n := hp.1.trans hd
  have h1 := perm_of_in (d := d) (d' := d') (by rw [hd]; exact hp)
  have h2 := srt_of_get (d := d') (lt := lt2) (by rw [hd']; exact hs)
  refine Array.ext' (same_keys hk (fun i hi => ?_) h2 (h1.trans hkp.symm))
  have hi' : i + 1 < n := by simpa [hkz] using hi
  have := hne i hi'
  rw [bang_get k (by omega), bang_get k (by omega)] at this
  simpa using this

set_option maxHeartbeats 8000000 in
set_option maxRecDepth 100000 in
theorem law6_main (w : World) (p1 p2 p3 : Option Addr) (n c1 c2 c3 : Nat) (x y z : Array Int) (h1 : Hid (Arg w p1 n x)) (h2 : Hid (Arg w p2 n y)) (h3 : Hid (Arg w p3 n z)) (hsz : n ≤ 32768) (htab : Hid (Tb w.heap.size w)) :
    Calls Tryd.prog 6 #[.slice p1 n c1, .slice p2 n c2, .slice p3 n c3] w fun e w' => e = .returned (.bool true) ∧ Kp (fun _ => False) w w' := by
  have mk := make22 n (by omega)
  have hneq := fun (a : Option Addr) (k c : Nat) (W : World) => run_neq_slice_nil (P := Tryd.prog) W 22 3 a k c Tryd.underlying22
  go_enter Tryd.func6, Tryd.ntmps6
  go_upto_if 58 with (go_at_call 18; refine (bytes18_some p1 p2 p3 n n n c1 c2 c3 w (by omega) (by omega) (by omega)).mono ?_; rintro e w ⟨⟨b, rfl⟩, rfl⟩; cases b)
  · go_ret
    exact ⟨rfl, Kp.refl _ _⟩
  · go_cut [0] from 57 to 65 (fun s0 wx => ∃ (q : Option Addr) (c : Nat), s0 = .slice q n c ∧ Hid (Col wx q n x) ∧ Hid (Kp (fun _ => False) w wx))
    case first =>
      cases p1 with
      | none =>
        have hn := h1.out.nil rfl
        subst hn
        have HC : Hid (Col w none 0 x) := ⟨h1.out.sz, .inl rfl⟩
        go_wp2_with fail
        go_meet
        case rel => exact ⟨none, c1, rfl, HC, Kp.refl _ _⟩
      | some a =>
        obtain ⟨W', hr, hc, hk⟩ := copy_run (c := c1) h1.out
        have HC := Hid.lay hc
        have HK := Hid.lay hk
        clear hc hk
        go_wp2_with fail
        go_meet
        case rel => exact ⟨_, n, rfl, HC, HK⟩
    case rest =>
      obtain ⟨q1, d1, rfl, HC1, HK1⟩ := hcut
      replace h2 := Hid.lay (h2.out.keep HK1.out)
      go_upto_if 67 with fail
      go_cut [1] from 66 to 74 (fun s0 wx => ∃ (q : Option Addr) (c : Nat), s0 = .slice q n c ∧ Hid (Col wx q n y) ∧ Hid (Kp (fun _ => False) wc wx))
      case first =>
        cases p2 with
        | none =>
          have hn := h2.out.nil rfl
          subst hn
          have HC : Hid (Col wc none 0 y) := ⟨h2.out.sz, .inl rfl⟩
          go_wp2_with fail
          go_meet
          case rel => exact ⟨none, c2, rfl, HC, Kp.refl _ _⟩
        | some a =>
          obtain ⟨W', hr, hc, hk⟩ := copy_run (c := c2) h2.out
          have HC := Hid.lay hc
          have HK := Hid.lay hk
          clear hc hk
          go_wp2_with fail
          go_meet
          case rel => exact ⟨_, n, rfl, HC, HK⟩
      case rest =>
        obtain ⟨q2, d2, rfl, HC2, HK2⟩ := hcut
        replace HC1 := Hid.lay (HC1.out.keep HK2.out)
        replace HK1 := Hid.lay (HK1.out.trans HK2.out fun _ _ e => e)
        replace h3 := Hid.lay (h3.out.keep HK1.out)
        clear HK2
        go_upto_if 76 with fail
        go_cut [2] from 75 to 83 (fun s0 wx => ∃ (q : Option Addr) (c : Nat), s0 = .slice q n c ∧ Hid (Col wx q n z) ∧ Hid (Kp (fun _ => False) wc wx))
        case first =>
          cases p3 with
          | none =>
            have hn := h3.out.nil rfl
            subst hn
            have HC : Hid (Col wc none 0 z) := ⟨h3.out.sz, .inl rfl⟩
            go_wp2_with fail
            go_meet
            case rel => exact ⟨none, c3, rfl, HC, Kp.refl _ _⟩
          | some a =>
            obtain ⟨W', hr, hc, hk⟩ := copy_run (c := c3) h3.out
            have HC := Hid.lay hc
            have HK := Hid.lay hk
            clear hc hk
            go_wp2_with fail
            go_meet
            case rel => exact ⟨_, n, rfl, HC, HK⟩
        case rest =>
          obtain ⟨q3, d3, rfl, HC3, HK3⟩ := hcut
          replace HC1 := Hid.lay (HC1.out.keep HK3.out)
          replace HC2 := Hid.lay (HC2.out.keep HK3.out)
          replace HK1 := Hid.lay (HK1.out.trans HK3.out fun _ _ e => e)
          clear HK3
          have HT := Hid.lay (htab.out.keep (Nat.le_refl _) HK1.out (fun _ e => e.elim))
          have HR : Hid (∀ i, i < n → Rng (x[i]!, y[i]!, z[i]!)) := fun i hi => ⟨h1.out.rng i hi, h2.out.rng i hi, h3.out.rng i hi⟩
          go_wp2_with fail
          refine (trip_any wc q1 q2 q3 n d1 d2 d3 x y z HC1 HC2 HC3 hsz).mono ?_
          rintro e w6 ⟨gi, rfl, ri, fi, ki⟩
          have HW := Hid.lay ki
          have HI := Hid.lay ri
          clear ri ki
          go_wp2_with fail
          refine (msort_any w6 gi n n (zip3 n x y z) HI (zip3_size n x y z) hsz).mono ?_
          rintro e w7 ⟨gk, dk, rfl, rk, sk, tk, pk, fk, kk⟩
          replace HW := Hid.lay (HW.out.trans kk fun _ _ e => e)
          have HKy := Hid.lay rk
          have HTk := Hid.lay tk
          have HPk := Hid.lay pk
          clear rk kk tk pk HI hneq
          go_wp2_with fail
          go_loopw [12] (fun s wx => ∃ j : Nat, s = .int .i64 ((j : Int) + 1) ∧ j ≤ n ∧ Hid (Kp (fun _ => False) w7 wx) ∧ Hid (∀ i, i < j → ¬ (dk[i + 1]!.1 = dk[i]!.1 ∧ dk[i + 1]!.2.1 = dk[i]!.2.1))) (fun s _ => n - (intOf s).toNat)
          case atStart => exact ⟨0, rfl, Nat.zero_le _, Kp.refl _ _, fun i hi => absurd hi (Nat.not_lt_zero _)⟩
          case round =>
            obtain ⟨j, rfl, hj, HV, HN⟩ := hrel
            by_cases hjn : j + 1 < n
            · have hjn' : decide ((j : Int) + 1 < n) = true := by simp; omega
              obtain ⟨r1, r2, r3⟩ := (HKy.out.keep HV.out (fun e => e)).cells j (by omega)
              obtain ⟨s1, s2, s3⟩ := (HKy.out.keep HV.out (fun e => e)).cells (j + 1) (by omega)
              have HN2 : Hid (¬ (dk[j + 1]!.1 = dk[j]!.1 ∧ dk[j + 1]!.2.1 = dk[j]!.2.1) → ∀ i, i < j + 1 → ¬ (dk[i + 1]!.1 = dk[i]!.1 ∧ dk[i + 1]!.2.1 = dk[i]!.2.1)) := fun h i hi => by
                by_cases e : i = j
                · subst e; exact h
                · exact HN.out i (by omega)
              generalize hu : dk[j]! = U at *
              generalize hv : dk[j + 1]! = V at *
              obtain ⟨u, v, t⟩ := U
              obtain ⟨u', v', t'⟩ := V
              dsimp only at *
              clear hu hv
              have hways : Hid ((u' == u) = false ∨ ((u' == u) = true ∧ (v' == v) = false) ∨ ((u' == u) = true ∧ (v' == v) = true)) := by
                cases (u' == u) <;> cases (v' == v) <;> simp [Hid]
              rcases hways.out with hb | ⟨hb, hd2⟩ | ⟨hb, hd2⟩
              · replace HN2 := Hid.lay (HN2.out (fun h => by simp [h.1] at hb))
                go_wp2_with fail
                go_quiet (fail)
                go_wp2_with fail
                exact ⟨⟨j + 1, by simp, by omega, HV.out.drew nq, HN2⟩, by simp [intOf]; omega⟩
              · replace HN2 := Hid.lay (HN2.out (fun h => by simp [h.2] at hd2))
                go_wp2_with fail
                go_quiet (fail)
                go_wp2_with fail
                exact ⟨⟨j + 1, by simp, by omega, HV.out.drew nq, HN2⟩, by simp [intOf]; omega⟩
              · go_wp2_with fail
                go_quiet (fail)
                go_wp2_with fail
                go_ret
                exact ⟨rfl, (HK1.out.trans (HW.out.trans HV.out fun _ _ e => e) fun _ _ e => e).drew nq⟩
            · have hjn' : decide ((j : Int) + 1 < n) = false := by simp; omega
              replace HN : Hid (∀ i, i + 1 < n → ¬ (dk[i + 1]!.1 = dk[i]!.1 ∧ dk[i + 1]!.2.1 = dk[i]!.2.1)) := fun i hi => HN.out i (by omega)
              replace HW := Hid.lay (HW.out.trans HV.out fun _ _ e => e)
              replace HKy := Hid.lay (HKy.out.keep HV.out (fun e => e))
              clear HV
              obtain ⟨wq, hwq⟩ : ∃ wq, wq = wr := ⟨_, rfl⟩
              subst hwq
              replace HC1 := Hid.lay (HC1.out.keep HW.out)
              replace HC2 := Hid.lay (HC2.out.keep HW.out)
              replace HC3 := Hid.lay (HC3.out.keep HW.out)
              replace HT := Hid.lay (HT.out.keep HK1.out.size HW.out (fun _ e => e.elim))
              replace HK1 := Hid.lay (HK1.out.trans HW.out fun _ _ e => e)
              clear HW
              have R0 := Hid.lay (Rv.start wq n x y z 3 3 3)
              go_wp2_with fail
              clear mk
              go_loopw [16] (fun s wx => ∃ (k : Nat) (a1 a2 a3 : Array Int), s = .int .i64 k ∧ k ≤ n ∧ Hid (Rv wq wx wq.heap.size (wq.heap.size + 1) (wq.heap.size + 1 + 1) n k x y z a1 a2 a3)) (fun s _ => n - (intOf s).toNat)
              case atStart => exact ⟨0, _, _, _, rfl, Nat.zero_le _, R0⟩
              case round =>
                obtain ⟨k, a1, a2, a3, rfl, hk, HV⟩ := hrel
                clear R0
                by_cases hkn : k < n
                · have hkn' : decide ((k : Int) < n) = true := by simp; omega
                  obtain ⟨m, hm⟩ : ∃ m, m = n - 1 - k := ⟨_, rfl⟩
                  have hmn : m < n := by omega
                  have hmi : (n : Int) - 1 - k = m := by omega
                  have HS := Hid.lay (HV.out.step hkn (by omega) (by omega) (by omega))
                  rw [← hm] at HS
                  clear hm
                  obtain ⟨b1, rfl, r1⟩ := HC1.out.at hmn
                  obtain ⟨b2, rfl, r2⟩ := HC2.out.at hmn
                  obtain ⟨b3, rfl, r3⟩ := HC3.out.at hmn
                  have l1 : b1 < wq.heap.size := World.block_lt_of_cell? wq _ r1
                  have l2 : b2 < wq.heap.size := World.block_lt_of_cell? wq _ r2
                  have l3 : b3 < wq.heap.size := World.block_lt_of_cell? wq _ r3
                  have n1 : b1 ≠ wq.heap.size := by omega
                  have n2 : b2 ≠ wq.heap.size := by omega
                  have n3 : b3 ≠ wq.heap.size := by omega
                  have n4 : b2 ≠ wq.heap.size + 1 := by omega
                  have n5 : b3 ≠ wq.heap.size + 1 := by omega
                  replace r1 := HV.out.kp.cell r1 (fun e => e)
                  replace r2 := HV.out.kp.cell r2 (fun e => e)
                  replace r3 := HV.out.kp.cell r3 (fun e => e)
                  obtain ⟨u1, t1⟩ := HV.out.r1.cell (i := k) (by rw [HV.out.s1]; exact hkn)
                  obtain ⟨u2, t2⟩ := HV.out.r2.cell (i := k) (by rw [HV.out.s2]; exact hkn)
                  obtain ⟨u3, t3⟩ := HV.out.r3.cell (i := k) (by rw [HV.out.s3]; exact hkn)
                  generalize x[m]! = X1 at *
                  generalize y[m]! = X2 at *
                  generalize z[m]! = X3 at *
                  clear l1 l2 l3
                  go_wp2_with fail
                  exact ⟨⟨k + 1, _, _, _, by simp, hkn, HS⟩, by simp [intOf]; omega⟩
                · have hkn' : decide ((k : Int) < n) = false := by simp; omega
                  obtain rfl : k = n := by omega
                  have HPr := Hid.lay HV.out.perm
                  replace HKy := Hid.lay (HKy.out.keep HV.out.kp (fun e => e))
                  replace HC1 := Hid.lay (HC1.out.keep HV.out.kp)
                  replace HC2 := Hid.lay (HC2.out.keep HV.out.kp)
                  replace HC3 := Hid.lay (HC3.out.keep HV.out.kp)
                  replace HT := Hid.lay (HT.out.keep HK1.out.size HV.out.kp (fun _ e => e.elim))
                  replace HK1 := Hid.lay (HK1.out.trans HV.out.kp fun _ _ e => e)
                  go_wp2_with fail
                  refine (zzw_any w.heap.size wr q1 q2 q3 k d1 d2 d3 x y z HC1 HC2 HC3 hsz HK1.out.size HT HR).mono ?_
                  rintro e w8 ⟨f1, g1, g2, g3, v1, v2, v3, rfl, hp, hs, -, -, -, -, kk⟩
                  have hf1 := file_keys (zip3_size k x y z) HTk.out sk HPk.out HN.out hp hs
                  subst hf1
                  have A1 := Hid.lay ((HV.out.r1.col HV.out.s1).keep kk)
                  have A2 := Hid.lay ((HV.out.r2.col HV.out.s2).keep kk)
                  have A3 := Hid.lay ((HV.out.r3.col HV.out.s3).keep kk)
                  have HR2 : Hid (∀ i, i < k → Rng (a1[i]!, a2[i]!, a3[i]!)) := fun i hi => by
                    rw [HV.out.e1 i hi, HV.out.e2 i hi, HV.out.e3 i hi]
                    exact HR.out _ (by omega)
                  have HRd : Hid (∀ v ∈ f1.toList, Rng v) := fun v hv => Rng.zip HR.out v (HPk.out.mem_iff.1 hv)
                  replace HKy := Hid.lay (HKy.out.keep kk (fun e => e))
                  replace HT := Hid.lay (HT.out.keep HK1.out.size kk (fun _ e => e.elim))
                  replace HK1 := Hid.lay (HK1.out.trans kk fun _ _ e => e)
                  clear hp hs kk HC1 HC2 HC3
                  go_wp2_with fail
                  refine (zzw_any w.heap.size w8 _ _ _ k k k k a1 a2 a3 A1 A2 A3 hsz HK1.out.size HT HR2).mono ?_
                  rintro e w9 ⟨f2, G1, G2, G3, V1, V2, V3, rfl, hp, hs, -, -, -, -, kk⟩
                  have hf2 := file_keys (zip3_size k a1 a2 a3) HTk.out sk (HPk.out.trans HPr.out.symm) HN.out hp hs
                  subst hf2
                  replace HKy := Hid.lay (HKy.out.keep kk (fun e => e))
                  replace HK1 := Hid.lay (HK1.out.trans kk fun _ _ e => e)
                  clear hp hs kk A1 A2 A3 HT
                  go_wp2_with fail
                  refine (render_any w9 gk k k f2 HKy sk hsz HRd).mono ?_
                  rintro e wE ⟨rfl, kE⟩
                  have HKE := Hid.lay (HK1.out.trans kE fun _ _ e => e)
                  clear kE
                  go_wp2_with fail
                  go_ret
                  exact ⟨by simp, HKE.out⟩

set_option maxHeartbeats 4000000 in
set_option maxRecDepth 100000 in
theorem law6_any (w : World) (p1 p2 p3 : Option Addr) (n1 n2 n3 c1 c2 c3 : Nat) (x y z : Array Int) (h1 : Hid (Arg w p1 n1 x)) (h2 : Hid (Arg w p2 n2 y)) (h3 : Hid (Arg w p3 n3 z)) (htab : Hid (Tb w.heap.size w))
    (b1 : n1 ≤ 9223372036854775807) (b2 : n2 ≤ 9223372036854775807) (b3 : n3 ≤ 9223372036854775807) :
    Calls Tryd.prog 6 #[.slice p1 n1 c1, .slice p2 n2 c2, .slice p3 n3 c3] w fun e w' => e = .returned (.bool true) ∧ Kp (fun _ => False) w w' := by
  by_cases hall : n1 ≤ 32768 ∧ n2 = n1 ∧ n3 = n1
  · obtain ⟨hsz, rfl, rfl⟩ := hall
    exact law6_main w p1 p2 p3 _ c1 c2 c3 x y z h1 h2 h3 hsz htab
  · go_enter Tryd.func6, Tryd.ntmps6
    go_upto_if 31 with (go_at_call 18; refine (bytes18_some p1 p2 p3 n1 n2 n3 c1 c2 c3 w b1 b2 b3).mono ?_; rintro e w ⟨⟨b, rfl⟩, rfl⟩)
    cases b with
    | false =>
      go_wp2_with fail
      go_ret
      exact ⟨rfl, Kp.refl _ _⟩
    | true =>
      by_cases g1 : 32768 < n1
      · have g1' : decide ((32768 : Int) < n1) = true := by simp; omega
        go_wp2_with fail
        go_ret
        exact ⟨rfl, Kp.refl _ _⟩
      · have g1' : decide ((32768 : Int) < n1) = false := by simp; omega
        by_cases g2 : 32768 < n2
        · have g2' : decide ((32768 : Int) < n2) = true := by simp; omega
          go_wp2_with fail
          go_ret
          exact ⟨rfl, Kp.refl _ _⟩
        · have g2' : decide ((32768 : Int) < n2) = false := by simp; omega
          by_cases g3 : 32768 < n3
          · have g3' : decide ((32768 : Int) < n3) = true := by simp; omega
            go_wp2_with fail
            go_ret
            exact ⟨rfl, Kp.refl _ _⟩
          · have g3' : decide ((32768 : Int) < n3) = false := by simp; omega
            by_cases e2 : n2 = n1
            · have e2' : ((n2 : Int) != n1) = false := by simp [e2]
              have e3' : ((n3 : Int) != n1) = true := by simp; omega
              clear e2
              go_wp2_with fail
              go_ret
              exact ⟨rfl, Kp.refl _ _⟩
            · have e2' : ((n2 : Int) != n1) = true := by simp; omega
              go_wp2_with fail
              go_ret
              exact ⟨rfl, Kp.refl _ _⟩
end Go.Proofs.Qxb6609202aDoor.Wr
