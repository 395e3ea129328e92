/-
  zzb1Sort (16): a bottom-up merge sort.
-/
import Derived.Test.Qxb6609202aDoorRw
import Derived.Deep.CutRange
namespace Go.Proofs.Qxb6609202aDoor.Wr
open Go.RowKit Go.Lib Go.Sort

/-- the two rows of the merge sort: both of the call's own -/
structure TwoR (w wr : World) (ga gt n : Nat) (a t : Array R3) : Prop where
  ra : RW wr ga a
  rt : RW wr gt t
  ne : ga ≠ gt
  fa : w.heap.size ≤ ga
  ft : w.heap.size ≤ gt
  sa : a.size = n
  st : t.size = n
  kp : Kp (fun _ => False) w wr

theorem TwoR.less {w wr w2 : World} {ga gt n : Nat} {a t : Array R3} (h : TwoR w wr ga gt n a t) (k : Kp (fun _ => False) wr w2) : TwoR w w2 ga gt n a t :=
  ⟨h.ra.keep k (fun e => e), h.rt.keep k (fun e => e), h.ne, h.fa, h.ft, h.sa, h.st, h.kp.trans k fun _ _ e => e⟩
theorem TwoR.put {w wr : World} {ga gt n : Nat} {a t : Array R3} (h : TwoR w wr ga gt n a t) (k : Nat) (hk : k < n) (v : R3) : TwoR w (wr.setCells gt (k * 3) (enc3 v)) ga gt n a (t.set! k v) := by
  obtain ⟨p1, p2⟩ := h.rt.put k (by rw [h.st]; exact hk) v
  exact ⟨h.ra.keep p2 h.ne, p1, h.ne, h.fa, h.ft, h.sa, by simpa using h.st, h.kp.trans p2 fun i hi e => by have := h.ft; omega⟩
theorem TwoR.swap {w wr : World} {ga gt n : Nat} {a t : Array R3} (h : TwoR w wr ga gt n a t) : TwoR w wr gt ga n t a := ⟨h.rt, h.ra, h.ne.symm, h.ft, h.fa, h.st, h.sa, h.kp⟩

/-- the copy in hand -/
structure Cp (w wr : World) (blk g n i : Nat) (d a : Array R3) : Prop where
  rd : RW wr blk d
  ra : RW wr g a
  ne : blk ≠ g
  fa : w.heap.size ≤ g
  sa : a.size = n
  eq : ∀ j, j < i → a[j]! = d[j]!
  kp : Kp (fun _ => False) w wr

theorem Cp.start {w : World} {blk n : Nat} {d : Array R3} (h : RW w blk d) (T : TypeId) : Cp w (w.alloc (.cells (madeCells #[.int .i64 0, .int .i64 0, .int .i64 0] (n * 3)) T)) blk w.heap.size n 0 d (Array.replicate n (0, 0, 0)) :=
  ⟨h.keep (Kp.alloc' w _) (fun e => e), RW.made n w T, by have := h.lt; omega, Nat.le_refl _, by simp, fun _ h => absurd h (Nat.not_lt_zero _), Kp.alloc' w _⟩
theorem Cp.step {w wr : World} {blk g n i : Nat} {d a : Array R3} (h : Cp w wr blk g n i d a) (hi : i < n) : Cp w (wr.setCells g (i * 3) (enc3 d[i]!)) blk g n (i + 1) d (a.set! i d[i]!) := by
  obtain ⟨p1, p2⟩ := h.ra.put i (by rw [h.sa]; exact hi) d[i]!
  refine ⟨h.rd.keep p2 h.ne, p1, h.ne, h.fa, by simpa using h.sa, fun j hj => ?_, h.kp.trans p2 fun i hi e => by have := h.fa; omega⟩
  by_cases e : j = i
  · subst e
    exact set_get_self a _ (by rw [h.sa]; exact hi)
  · have sa := h.sa
    rw [← h.eq j (by omega), set_get_ne a _ e (by omega)]
theorem Cp.done {w wr : World} {blk g n : Nat} {d a : Array R3} (h : Cp w wr blk g n n d a) (hn : d.size = n) : a = d := by
  have sa := h.sa
  refine Array.ext (by omega) fun t h1 h2 => ?_
  rw [← bang_get a h1, ← bang_get d h2]
  exact h.eq t (by omega)

theorem Cp.two {w wr : World} {blk g n : Nat} {d : Array R3} (h : Cp w wr blk g n n d d) (T : TypeId) : TwoR w (wr.alloc (.cells (madeCells #[.int .i64 0, .int .i64 0, .int .i64 0] (n * 3)) T)) g wr.heap.size n d (Array.replicate n (0, 0, 0)) :=
  ⟨h.ra.keep (Kp.alloc' wr _) (fun e => e), RW.made n wr T, by have := h.ra.lt; omega, h.fa, h.kp.size, h.sa, by simp, h.kp.trans (Kp.alloc' wr _) fun _ _ e => e⟩

set_option maxHeartbeats 2000000 in
set_option maxRecDepth 100000 in
theorem msort_any (w : World) (blk c n : Nat) (d : Array R3) (h : Hid (RW w blk d)) (hn : d.size = n) (hsz : n ≤ 32768) :
    Calls Tryd.prog 16 #[.slice (some ⟨blk, 0, none⟩) n c] w fun e w' => ∃ (g : Nat) (d' : Array R3), e = .returned (.slice (some ⟨g, 0, none⟩) n n) ∧ RW w' g d' ∧ d'.size = n ∧ Srt d'.toList ∧ d'.toList.Perm d.toList ∧ w.heap.size ≤ g ∧ Kp (fun _ => False) w w' := by
  have mk := make34 n (by omega)
  have C0 := Hid.lay (Cp.start (n := n) h.out 38)
  go_enter Tryd.func16, Tryd.ntmps16
  go_wp2_with fail
  go_loopw [5] (fun s wr => ∃ (i : Nat) (a : Array R3), i ≤ n ∧ s = .int .i64 i ∧ Hid (Cp w wr blk w.heap.size n i d a)) (fun s _ => n - (intOf s).toNat)
  case atStart => exact ⟨0, _, Nat.zero_le _, rfl, C0⟩
  case round =>
    obtain ⟨i, a, hi, rfl, HC⟩ := hrel
    by_cases hlt : i < n
    · obtain ⟨r1, r2, r3⟩ := HC.out.rd.cells i (by omega)
      obtain ⟨c1, c2, c3⟩ := HC.out.ra.cells i (by rw [HC.out.sa]; exact hlt)
      obtain ⟨f1, f2, f3⟩ := HC.out.ra.frozen i (by rw [HC.out.sa]; exact hlt)
      have hlt' : decide ((i : Int) < n) = true := by simp; omega
      replace HC := Hid.lay (HC.out.step hlt)
      generalize hv : d[i]! = v at *
      obtain ⟨v1, v2, v3⟩ := v
      dsimp only at *
      go_wp2_with fail
      exact ⟨⟨i + 1, _, hlt, by simp, HC⟩, by simp [intOf]; omega⟩
    · have hlt' : decide ((i : Int) < n) = false := by simp; omega
      obtain rfl : i = n := by omega
      have ha := HC.out.done hn
      subst ha
      have T0 := Hid.lay (HC.out.two 38)
      have hA := HC.out.fa
      clear C0 HC
      go_wp2_with fail
      clear mk
      go_loopw [4, 6, 7] (fun s4 s6 s7 wx => ∃ (ga gt wd : Nat) (x t : Array R3), s4 = .slice (some ⟨ga, 0, none⟩) i i ∧ s6 = .slice (some ⟨gt, 0, none⟩) i i ∧ s7 = .int .i64 wd ∧ 1 ≤ wd ∧ wd ≤ 65536 ∧ Hid (TwoR w wx ga gt i x t) ∧ Hid (Runs wd x ∧ x.toList.Perm a.toList)) (fun _ _ s _ => i - (intOf s).toNat)
      case atStart => exact ⟨_, _, 1, _, _, rfl, rfl, rfl, by omega, by omega, T0, runs_one a, List.Perm.refl _⟩
      case round =>
        obtain ⟨ga, gt, wd, x, t, rfl, rfl, rfl, hw1, hw2, HT, HR⟩ := hrel
        clear T0
        by_cases hwn : wd < i
        · have hwn' : decide ((wd : Int) < i) = true := by simp; omega
          have P0 := Hid.lay (Ps.start (w := wd) (HT.out.st.trans HT.out.sa.symm))
          go_wp2_with fail
          go_loopw [8] (fun s8 wy => ∃ (lo q : Nat) (u : Array R3), s8 = .int .i64 lo ∧ Hid (lo = q * (2 * wd)) ∧ lo ≤ 131072 ∧ Hid (TwoR w wy ga gt i x u) ∧ Hid (Ps x u wd q)) (fun s _ => i - (intOf s).toNat)
          case atStart => exact ⟨0, 0, _, rfl, Hid.lay (by omega), by omega, HT, P0⟩
          case round =>
            obtain ⟨lo, q, u, rfl, hlo, hlo2, HU, HP⟩ := hrel
            clear HT P0
            by_cases hln : lo < i
            · have hln' : decide ((lo : Int) < i) = true := by simp; omega
              obtain ⟨mid, hmid⟩ : ∃ m, m = min (lo + wd) i := ⟨_, rfl⟩
              obtain ⟨hi, hhi⟩ : ∃ m, m = min (lo + 2 * wd) i := ⟨_, rfl⟩
              have hb1 : lo ≤ mid := by omega
              have hb2 : mid ≤ hi := by omega
              have hb3 : hi ≤ i := by omega
              have HM := Hid.lay hmid
              have HH := Hid.lay hhi
              clear hmid hhi
              go_upto_if 49 with fail
              go_cut [9] from 37 to 126 (fun s9 wx => s9 = .int .i64 mid ∧ wx = wr)
              case first =>
                by_cases hc : i < lo + wd
                · have hc' : decide ((i : Int) < lo + wd) = true := by simp; omega
                  go_wp2_with fail
                  go_meet
                  case rel => exact ⟨by rw [show mid = i by have := HM.out; omega], rfl⟩
                · have hc' : decide ((i : Int) < lo + wd) = false := by simp; omega
                  go_wp2_with fail
                  go_meet
                  case rel => exact ⟨by rw [show mid = lo + wd by have := HM.out; omega]; simp, rfl⟩
              case rest =>
                obtain ⟨rfl, rfl⟩ := hcut
                go_upto_if 57 with fail
                go_cut [10] from 37 to 126 (fun s10 wx => s10 = .int .i64 hi ∧ wx = wc)
                case first =>
                  by_cases hc : i < lo + 2 * wd
                  · have hc' : decide ((i : Int) < lo + 2 * wd) = true := by simp; omega
                    go_wp2_with fail
                    go_meet
                    case rel => exact ⟨by rw [show hi = i by have := HH.out; omega], rfl⟩
                  · have hc' : decide ((i : Int) < lo + 2 * wd) = false := by simp; omega
                    go_wp2_with fail
                    go_meet
                    case rel => exact ⟨by rw [show hi = lo + 2 * wd by have := HH.out; omega]; simp, rfl⟩
                case rest =>
                  obtain ⟨rfl, rfl⟩ := hcut
                  go_wp2_with fail
                  have M0 := Hid.lay (Mg.start (lo := lo) (a := x) (t := u) hb1 hb2 (by rw [HU.out.sa]; exact hb3) (HU.out.st.trans HU.out.sa.symm))
                  go_loopw [11, 12, 13] (fun s11 s12 s13 wz => ∃ (p r : Nat) (t' : Array R3), s11 = .int .i64 p ∧ s12 = .int .i64 r ∧ s13 = .int .i64 (p + (r - mid) : Nat) ∧ lo ≤ p ∧ p ≤ mid ∧ mid ≤ r ∧ r ≤ hi ∧ Hid (TwoR w wz ga gt i x t') ∧ Hid (Mg x u t' lo mid hi p r)) (fun s11 s12 _ _ => mid - (intOf s11).toNat + (hi - (intOf s12).toNat))
                  case atStart => exact ⟨lo, mid, u, rfl, rfl, by simp, by omega, by omega, by omega, by omega, HU, M0⟩
                  case round =>
                    obtain ⟨p, r, t', rfl, rfl, rfl, hp1, hp2, hr1, hr2, HZ, HG⟩ := hrel
                    clear M0 HU
                    by_cases hpr : p < mid ∧ r < hi
                    · obtain ⟨hpm, hrh⟩ := hpr
                      have hpm' : decide ((p : Int) < mid) = true := by simp; omega
                      have hrh' : decide ((r : Int) < hi) = true := by simp; omega
                      obtain ⟨k, hk⟩ : ∃ k : Nat, k = p + (r - mid) := ⟨_, rfl⟩
                      rw [← hk]
                      have hki : k < i := by omega
                      have hpi : p < i := by omega
                      have hri : r < i := by omega
                      obtain ⟨x1, x2, x3⟩ := HZ.out.ra.cells p (by rw [HZ.out.sa]; omega)
                      obtain ⟨y1, y2, y3⟩ := HZ.out.ra.cells r (by rw [HZ.out.sa]; omega)
                      cases hl : lt3 x[r]! x[p]! with
                      | true =>
                        have HG2 := Hid.lay (HG.out.right hpm hrh hl)
                        rw [← hk] at HG2
                        have HK := Hid.lay hk
                        clear HG hk
                        generalize hX : x[p]! = X at *
                        generalize hY : x[r]! = Y at *
                        obtain ⟨X1, X2, X3⟩ := X
                        obtain ⟨Y1, Y2, Y3⟩ := Y
                        dsimp only at *
                        go_wp2_with fail
                        go_region_held3 (fun w' => w'.cell? ⟨ga, p * 3, none⟩ = some (.int .i64 X1) ∧ w'.cell? ⟨ga, p * 3 + 1, none⟩ = some (.int .i64 X2) ∧ w'.cell? ⟨ga, p * 3 + 2, none⟩ = some (.int .i64 X3) ∧ w'.cell? ⟨ga, r * 3, none⟩ = some (.int .i64 Y1) ∧ w'.cell? ⟨ga, r * 3 + 1, none⟩ = some (.int .i64 Y2) ∧ w'.cell? ⟨ga, r * 3 + 2, none⟩ = some (.int .i64 Y3)) (first | exact hkeep | exact ⟨x1, x2, x3, y1, y2, y3⟩ | go_keep) ((go_at_call 22; refine (zzless_any _ (Y1, Y2, Y3) (X1, X2, X3)).mono ?_; rintro e w2 ⟨rfl, k2⟩; rw [hl]; replace k2 := ((Kp.refl (fun _ => False) wr).drew 1).trans k2 (fun _ _ e => e); have hkeep := And.intro (k2.cell x1 (fun e => e)) (And.intro (k2.cell x2 (fun e => e)) (And.intro (k2.cell x3 (fun e => e)) (And.intro (k2.cell y1 (fun e => e)) (And.intro (k2.cell y2 (fun e => e)) (k2.cell y3 (fun e => e)))))); have HZ2 := Hid.lay (HZ.out.less k2); clear k2))
                        all_goals
                          clear x1 x2 x3 y1 y2 y3
                          obtain ⟨x1, x2, x3, y1, y2, y3⟩ := hkeep
                          obtain ⟨c1, c2, c3⟩ := HZ2.out.rt.cells k (by rw [HZ2.out.st]; exact hki)
                          obtain ⟨f1, f2, f3⟩ := HZ2.out.rt.frozen k (by rw [HZ2.out.st]; exact hki)
                          replace HZ2 := Hid.lay (HZ2.out.put k hki (Y1, Y2, Y3))
                          go_wp2_with fail
                          refine ⟨⟨p, r + 1, _, by simp, by simp, by rw [HK.out]; simp; omega, by omega, by omega, by omega, by omega, HZ2, HG2⟩, by simp [intOf]; omega⟩
                      | false =>
                        have HG2 := Hid.lay (HG.out.left hpm hrh hl)
                        rw [← hk] at HG2
                        have HK := Hid.lay hk
                        clear HG hk
                        generalize hX : x[p]! = X at *
                        generalize hY : x[r]! = Y at *
                        obtain ⟨X1, X2, X3⟩ := X
                        obtain ⟨Y1, Y2, Y3⟩ := Y
                        dsimp only at *
                        go_wp2_with fail
                        go_region_held3 (fun w' => w'.cell? ⟨ga, p * 3, none⟩ = some (.int .i64 X1) ∧ w'.cell? ⟨ga, p * 3 + 1, none⟩ = some (.int .i64 X2) ∧ w'.cell? ⟨ga, p * 3 + 2, none⟩ = some (.int .i64 X3) ∧ w'.cell? ⟨ga, r * 3, none⟩ = some (.int .i64 Y1) ∧ w'.cell? ⟨ga, r * 3 + 1, none⟩ = some (.int .i64 Y2) ∧ w'.cell? ⟨ga, r * 3 + 2, none⟩ = some (.int .i64 Y3)) (first | exact hkeep | exact ⟨x1, x2, x3, y1, y2, y3⟩ | go_keep) ((go_at_call 22; refine (zzless_any _ (Y1, Y2, Y3) (X1, X2, X3)).mono ?_; rintro e w2 ⟨rfl, k2⟩; rw [hl]; replace k2 := ((Kp.refl (fun _ => False) wr).drew 1).trans k2 (fun _ _ e => e); have hkeep := And.intro (k2.cell x1 (fun e => e)) (And.intro (k2.cell x2 (fun e => e)) (And.intro (k2.cell x3 (fun e => e)) (And.intro (k2.cell y1 (fun e => e)) (And.intro (k2.cell y2 (fun e => e)) (k2.cell y3 (fun e => e)))))); have HZ2 := Hid.lay (HZ.out.less k2); clear k2))
                        all_goals
                          clear x1 x2 x3 y1 y2 y3
                          obtain ⟨x1, x2, x3, y1, y2, y3⟩ := hkeep
                          obtain ⟨c1, c2, c3⟩ := HZ2.out.rt.cells k (by rw [HZ2.out.st]; exact hki)
                          obtain ⟨f1, f2, f3⟩ := HZ2.out.rt.frozen k (by rw [HZ2.out.st]; exact hki)
                          replace HZ2 := Hid.lay (HZ2.out.put k hki (X1, X2, X3))
                          go_wp2_with fail
                          refine ⟨⟨p + 1, r, _, by simp, by simp, by rw [HK.out]; simp; omega, by omega, by omega, by omega, by omega, HZ2, HG2⟩, by simp [intOf]; omega⟩
                    · have hex : (p = mid ∨ r = hi) := by omega
                      obtain ⟨k, hk⟩ : ∃ k : Nat, k = p + (r - mid) := ⟨_, rfl⟩
                      rw [← hk]
                      have HK := Hid.lay hk
                      clear hk
                      have hpe : p < mid → r = hi := by omega
                      have hcase : (decide ((p : Int) < mid) = true ∧ decide ((r : Int) < hi) = false) ∨ decide ((p : Int) < mid) = false := by
                        by_cases hpm : p < mid
                        · exact .inl ⟨by simp; omega, by simp; omega⟩
                        · exact .inr (by simp; omega)
                      clear hpr hex
                      rcases hcase with ⟨hpm', hrh'⟩ | hpm' <;> go_wp2_with fail
                      all_goals
                        clear hpm'
                        go_loopw [11, 13] (fun s11 s13 wz => ∃ (p' : Nat) (t2 : Array R3), s11 = .int .i64 p' ∧ s13 = .int .i64 (p' + (r - mid) : Nat) ∧ lo ≤ p' ∧ p' ≤ mid ∧ (p' < mid → r = hi) ∧ Hid (TwoR w wz ga gt i x t2) ∧ Hid (Mg x u t2 lo mid hi p' r)) (fun s11 _ _ => mid - (intOf s11).toNat)
                        case atStart => exact ⟨p, t', rfl, by rw [HK.out], hp1, hp2, hpe, HZ, HG⟩
                        case round =>
                          obtain ⟨p', t2, rfl, rfl, hp1', hp2', hpe', HZ2, HG2⟩ := hrel
                          clear HZ HG HK
                          obtain ⟨k2, hk2⟩ : ∃ k : Nat, k = p' + (r - mid) := ⟨_, rfl⟩
                          rw [← hk2]
                          by_cases hpm2 : p' < mid
                          · have hpm2' : decide ((p' : Int) < mid) = true := by simp; omega
                            have hrh := hpe' hpm2
                            subst hrh
                            have hki : k2 < i := by omega
                            have hpi : p' < i := by omega
                            obtain ⟨x1, x2, x3⟩ := HZ2.out.ra.cells p' (by rw [HZ2.out.sa]; exact hpi)
                            obtain ⟨c1, c2, c3⟩ := HZ2.out.rt.cells k2 (by rw [HZ2.out.st]; exact hki)
                            obtain ⟨f1, f2, f3⟩ := HZ2.out.rt.frozen k2 (by rw [HZ2.out.st]; exact hki)
                            replace HZ2 := Hid.lay (HZ2.out.put k2 hki x[p']!)
                            replace HG2 := Hid.lay (HG2.out.restL hpm2)
                            rw [← hk2] at HG2
                            have HK2 := Hid.lay hk2
                            clear hk2
                            generalize hX : x[p']! = X at *
                            obtain ⟨X1, X2, X3⟩ := X
                            dsimp only at *
                            go_wp2_with fail
                            refine ⟨⟨p' + 1, _, by simp, by rw [HK2.out]; simp; omega, by omega, by omega, fun _ => by trivial, HZ2, HG2⟩, by simp [intOf]; omega⟩
                          · have hpm2' : decide ((p' : Int) < mid) = false := by simp; omega
                            obtain rfl : p' = mid := by omega
                            have HK2 := Hid.lay hk2
                            clear hk2
                            go_wp2_with fail
                            go_loopw [12, 13] (fun s12 s13 wz => ∃ (r' : Nat) (t3 : Array R3), s12 = .int .i64 r' ∧ s13 = .int .i64 (p' + (r' - p') : Nat) ∧ p' ≤ r' ∧ r' ≤ hi ∧ Hid (TwoR w wz ga gt i x t3) ∧ Hid (Mg x u t3 lo p' hi p' r')) (fun s12 _ _ => hi - (intOf s12).toNat)
                            case atStart => exact ⟨r, t2, rfl, by rw [HK2.out], hr1, hr2, HZ2, HG2⟩
                            case round =>
                              obtain ⟨r', t3, rfl, rfl, hr1', hr2', HZ3, HG3⟩ := hrel
                              clear HZ2 HG2 HK2
                              obtain ⟨k3, hk3⟩ : ∃ k : Nat, k = p' + (r' - p') := ⟨_, rfl⟩
                              rw [← hk3]
                              by_cases hrh3 : r' < hi
                              · have hrh3' : decide ((r' : Int) < hi) = true := by simp; omega
                                have hki : k3 < i := by omega
                                have hri : r' < i := by omega
                                obtain ⟨x1, x2, x3⟩ := HZ3.out.ra.cells r' (by rw [HZ3.out.sa]; exact hri)
                                obtain ⟨c1, c2, c3⟩ := HZ3.out.rt.cells k3 (by rw [HZ3.out.st]; exact hki)
                                obtain ⟨f1, f2, f3⟩ := HZ3.out.rt.frozen k3 (by rw [HZ3.out.st]; exact hki)
                                replace HZ3 := Hid.lay (HZ3.out.put k3 hki x[r']!)
                                replace HG3 := Hid.lay (HG3.out.restR hrh3)
                                rw [← hk3] at HG3
                                have HK3 := Hid.lay hk3
                                clear hk3
                                generalize hX : x[r']! = X at *
                                obtain ⟨X1, X2, X3⟩ := X
                                dsimp only at *
                                go_wp2_with fail
                                refine ⟨⟨r' + 1, _, by simp, by rw [HK3.out]; simp; omega, by omega, by omega, HZ3, HG3⟩, by simp [intOf]; omega⟩
                              · have hrh3' : decide ((r' : Int) < hi) = false := by simp; omega
                                obtain rfl : r' = hi := by omega
                                have HP2 := Hid.lay (HP.out.step_at hlo.out HR.out.1 (by rw [HZ3.out.sa]; exact hln) (by rw [HZ3.out.sa]; exact HM.out) (by rw [HZ3.out.sa]; exact HH.out) HG3.out)
                                clear hk3
                                go_wp2_with fail
                                refine ⟨⟨lo + 2 * wd, q + 1, t3, by simp, Hid.lay (by rw [hlo.out, Nat.add_mul, Nat.one_mul]), by omega, HZ3, HP2⟩, by simp [intOf]; omega⟩
            · have hln' : decide ((lo : Int) < i) = false := by simp; omega
              have HD := Hid.lay (HP.out.done (by rw [HU.out.sa, ← hlo.out]; omega))
              have HQ := Hid.lay (HD.out.2.trans HR.out.2)
              go_wp2_with fail
              refine ⟨⟨gt, ga, 2 * wd, u, x, rfl, rfl, by simp; omega, by omega, by omega, HU.out.swap, HD.out.1, HQ.out⟩, by simp [intOf]; omega⟩
        · have hwn' : decide ((wd : Int) < i) = false := by simp; omega
          go_wp2_with fail
          go_ret
          exact ⟨ga, x, rfl, HT.out.ra, HT.out.sa, HR.out.1.srt (by rw [HT.out.sa]; omega), HR.out.2, HT.out.fa, HT.out.kp⟩
end Go.Proofs.Qxb6609202aDoor.Wr
