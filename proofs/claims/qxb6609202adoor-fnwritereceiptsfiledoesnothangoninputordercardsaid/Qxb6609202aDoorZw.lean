/-
  ZZWriteReceipts (14).
-/
import Derived.Test.Qxb6609202aDoorTr
import Derived.Test.Qxb6609202aDoorRcp
namespace Go.Proofs.Qxb6609202aDoor.Wr
open Go.RowKit Go.Lib Go.Sort

theorem info54b : (Tryd.prog.info? 54).map (fun i => (i.zero, i.size, i.bytes)) = some (some (.agg #[.int .i64 0, .int .i64 0, .int .i64 0]), 3, 24) := by kernel_rfl
theorem make52 (n : Nat) (hn : n ≤ 1048576) (w : World) :
    (Instr.makeSlice 52 (.int .i64 n) (.int .i64 n)).run Tryd.prog w = .ok (.slice (some ⟨w.heap.size, 0, none⟩) n n) (w.alloc (.cells (madeCells #[.int .i64 0, .int .i64 0, .int .i64 0] (n * 3)) 54)) := by
  obtain ⟨i0, hi, hz0, hz1, hz2⟩ := info_parts info54b
  have h := run_make (P := Tryd.prog) w 52 54 i0 (.agg #[.int .i64 0, .int .i64 0, .int .i64 0]) (by kernel_rfl) hi hz0 .i64 .i64 n n (by omega) (by omega) (by rw [hz2]; omega) (by omega)
  simpa [hz1, Value.cells] using h
theorem info3b : (Tryd.prog.info? 3).map (fun i => (i.zero, i.size, i.bytes)) = some (some (.int .i64 0), 1, 8) := by kernel_rfl
theorem make22 (n : Nat) (hn : n ≤ 1048576) (w : World) :
    (Instr.makeSlice 22 (.int .i64 n) (.int .i64 n)).run Tryd.prog w = .ok (.slice (some ⟨w.heap.size, 0, none⟩) n n) (w.alloc (.cells (madeCells #[.int .i64 0] n) 3)) := by
  obtain ⟨i0, hi, hz0, hz1, hz2⟩ := info_parts info3b
  have h := run_make (P := Tryd.prog) w 22 3 i0 (.int .i64 0) (by kernel_rfl) hi hz0 .i64 .i64 n n (by omega) (by omega) (by rw [hz2]; omega) (by omega)
  simpa [hz1, Value.cells] using h

def encI (i : Int) : Value := .int .i64 i
/-- a row of integers at block g -/
structure IR (w : World) (g : Nat) (a : Array Int) : Prop where
  row : Holds encI w g 0 a
  lt : g < w.heap.size
theorem IR.cell {w : World} {g : Nat} {a : Array Int} (h : IR w g a) {i : Nat} (hi : i < a.size) : w.cell? ⟨g, i, none⟩ = some (.int .i64 a[i]!) ∧ w.frozen? ⟨g, i, none⟩ = false := by
  have := h.row i hi
  rwa [Nat.zero_add] at this
theorem IR.keep {A : Nat → Prop} {w w' : World} {g : Nat} {a : Array Int} (h : IR w g a) (k : Kp A w w') (hA : ¬ A g) : IR w' g a := by
  refine ⟨fun i hi => ?_, Nat.lt_of_lt_of_le h.lt k.size⟩
  have h2 := h.row i hi
  exact ⟨(World.cell?_of_block (k.block g h.lt hA)).trans h2.1, (World.frozen?_of_block (k.block g h.lt hA)).trans h2.2⟩
theorem IR.put {w : World} {g : Nat} {a : Array Int} (h : IR w g a) (k : Nat) (hk : k < a.size) (v : Int) : IR (w.setCell ⟨g, k, none⟩ (.int .i64 v)) g (a.set! k v) ∧ Kp (fun b => b = g) w (w.setCell ⟨g, k, none⟩ (.int .i64 v)) := by
  have e : w.setCell ⟨g, k, none⟩ (.int .i64 v) = putRow encI w g 0 (a.set! k v) := by
    conv => lhs; rw [← putRow_self encI w g 0 a h.row]
    have := putRow_set encI w g 0 a k v hk
    rw [Nat.zero_add] at this
    exact this
  have hk' := Kp.set w g k (.int .i64 v)
  refine ⟨⟨?_, Nat.lt_of_lt_of_le h.lt hk'.size⟩, hk'⟩
  rw [e]
  exact holds_putRow encI w g 0 a _ h.row (by simp)
theorem IR.made (n : Nat) (w : World) (T : TypeId) : IR (w.alloc (.cells (madeCells #[.int .i64 0] n) T)) w.heap.size (Array.replicate n 0) := by
  refine ⟨fun t ht => ?_, by simp⟩
  have ht' : t < n := by simpa using ht
  rw [Nat.zero_add, getElem!_pos _ t ht]
  refine ⟨?_, by simp [go_sem]⟩
  simp [go_sem, madeCells, ht', Nat.mod_one, encI]
theorem IR.col {w : World} {g n : Nat} {a : Array Int} (h : IR w g a) (hn : a.size = n) : Col w (some ⟨g, 0, none⟩) n a := ⟨hn, .inr ⟨g, rfl, fun i hi => (h.cell (by omega)).1⟩⟩
theorem seti_self (a : Array Int) (v : Int) {k : Nat} (h : k < a.size) : (a.set! k v)[k]! = v := by simp [h]
theorem seti_ne (a : Array Int) (v : Int) {k t : Nat} (h : t ≠ k) (ht : t < a.size) : (a.set! k v)[t]! = a[t]! := by simp [ht, Ne.symm h]

/-- block g is a row of integers -/
def Ty3 (w : World) (g : Nat) : Prop := ∃ cs fz, w.heap[g]? = some (.cells cs 3 fz)
theorem Ty3.made (w : World) (cs : Array Value) : Ty3 (w.alloc (.cells cs 3)) w.heap.size := ⟨cs, (0, 0), heap_alloc_new w _⟩
theorem Ty3.keep {A : Nat → Prop} {w w' : World} {g : Nat} (h : Ty3 w g) (k : Kp A w w') (hA : ¬ A g) : Ty3 w' g := by
  obtain ⟨cs, fz, e⟩ := h
  exact ⟨cs, fz, k.cells e hA⟩
theorem Ty3.set {w : World} {g : Nat} (h : Ty3 w g) (o : Nat) (v : Value) : Ty3 (w.setCell ⟨g, o, none⟩ v) g := by
  obtain ⟨cs, fz, e⟩ := h
  refine ⟨cs.setIfInBounds o v, fz, ?_⟩
  rw [setCell_eq]
  unfold mapBlock
  simp [Array.getElem?_modify, e, onCells]
theorem IR.other {w w' : World} {g S : Nat} {a : Array Int} (h : IR w g a) (ht : Ty3 w g) (k : Lib.OthersKept 5 (some S) w w') (hne : g ≠ S) : IR w' g a := by
  obtain ⟨cs, fz, e⟩ := ht
  have e' := k g _ e (fun x => hne (Option.some.inj x)) (fun c fz x => by injection x with _ x2 _; cases x2)
  refine ⟨fun i hi => ?_, lt_of_cells e'⟩
  have h2 := h.row i hi
  exact ⟨(World.cell?_of_block (e'.trans e.symm)).trans h2.1, (World.frozen?_of_block (e'.trans e.symm)).trans h2.2⟩

/-- the three result columns in hand -/
structure C3 (w2 wr : World) (blk g1 g2 g3 n i : Nat) (d : Array R3) (a1 a2 a3 : Array Int) : Prop where
  rw : RW wr blk d
  r1 : IR wr g1 a1
  r2 : IR wr g2 a2
  r3 : IR wr g3 a3
  s1 : a1.size = n
  s2 : a2.size = n
  s3 : a3.size = n
  e1 : ∀ j, j < i → a1[j]! = d[j]!.1
  e2 : ∀ j, j < i → a2[j]! = d[j]!.2.1
  e3 : ∀ j, j < i → a3[j]! = d[j]!.2.2
  f1 : w2.heap.size ≤ g1
  f2 : w2.heap.size ≤ g2
  f3 : w2.heap.size ≤ g3
  fb : blk < w2.heap.size
  t1 : Ty3 wr g1
  t2 : Ty3 wr g2
  t3 : Ty3 wr g3
  kp : Kp (fun _ => False) w2 wr

theorem C3.start {w2 : World} {blk n : Nat} {d : Array R3} (h : RW w2 blk d) :
    C3 w2 (((w2.alloc (.cells (madeCells #[.int .i64 0] n) 3)).alloc (.cells (madeCells #[.int .i64 0] n) 3)).alloc (.cells (madeCells #[.int .i64 0] n) 3)) blk w2.heap.size (w2.heap.size + 1) (w2.heap.size + 1 + 1) n 0 d (Array.replicate n 0) (Array.replicate n 0) (Array.replicate n 0) := by
  have k1 := Kp.alloc' w2 (.cells (madeCells #[.int .i64 0] n) 3)
  have k2 := Kp.alloc' (w2.alloc (.cells (madeCells #[.int .i64 0] n) 3)) (.cells (madeCells #[.int .i64 0] n) 3)
  have k3 := Kp.alloc' ((w2.alloc (.cells (madeCells #[.int .i64 0] n) 3)).alloc (.cells (madeCells #[.int .i64 0] n) 3)) (.cells (madeCells #[.int .i64 0] n) 3)
  have m1 := IR.made n w2 3
  have m2 := IR.made n (w2.alloc (.cells (madeCells #[.int .i64 0] n) 3)) 3
  have m3 := IR.made n ((w2.alloc (.cells (madeCells #[.int .i64 0] n) 3)).alloc (.cells (madeCells #[.int .i64 0] n) 3)) 3
  have y1 := Ty3.made w2 (madeCells #[.int .i64 0] n)
  have y2 := Ty3.made (w2.alloc (.cells (madeCells #[.int .i64 0] n) 3)) (madeCells #[.int .i64 0] n)
  have y3 := Ty3.made ((w2.alloc (.cells (madeCells #[.int .i64 0] n) 3)).alloc (.cells (madeCells #[.int .i64 0] n) 3)) (madeCells #[.int .i64 0] n)
  simp only [World.size_alloc] at m2 m3 y2 y3
  exact ⟨((h.keep k1 (fun e => e)).keep k2 (fun e => e)).keep k3 (fun e => e), (m1.keep k2 (fun e => e)).keep k3 (fun e => e), m2.keep k3 (fun e => e), m3, by simp, by simp, by simp,
    fun _ h => absurd h (Nat.not_lt_zero _), fun _ h => absurd h (Nat.not_lt_zero _), fun _ h => absurd h (Nat.not_lt_zero _), Nat.le_refl _, by omega, by omega, h.lt, (y1.keep k2 (fun e => e)).keep k3 (fun e => e), y2.keep k3 (fun e => e), y3, (k1.trans k2 fun _ _ e => e).trans k3 fun _ _ e => e⟩

theorem C3.step {w2 wr : World} {blk g1 g2 g3 n i : Nat} {d : Array R3} {a1 a2 a3 : Array Int} (h : C3 w2 wr blk g1 g2 g3 n i d a1 a2 a3) (hi : i < n) (h12 : g1 ≠ g2) (h13 : g1 ≠ g3) (h23 : g2 ≠ g3) :
    C3 w2 (((wr.setCell ⟨g1, i, none⟩ (.int .i64 d[i]!.1)).setCell ⟨g2, i, none⟩ (.int .i64 d[i]!.2.1)).setCell ⟨g3, i, none⟩ (.int .i64 d[i]!.2.2)) blk g1 g2 g3 n (i + 1) d (a1.set! i d[i]!.1) (a2.set! i d[i]!.2.1) (a3.set! i d[i]!.2.2) := by
  have f1 := h.f1; have f2 := h.f2; have f3 := h.f3; have fb := h.fb; have s1 := h.s1; have s2 := h.s2; have s3 := h.s3
  obtain ⟨p1, q1⟩ := h.r1.put i (by omega) d[i]!.1
  obtain ⟨p2, q2⟩ := (h.r2.keep q1 (Ne.symm h12)).put i (by omega) d[i]!.2.1
  obtain ⟨p3, q3⟩ := ((h.r3.keep q1 (Ne.symm h13)).keep q2 (Ne.symm h23)).put i (by omega) d[i]!.2.2
  have hb1 : ¬ blk = g1 := by omega
  have hb2 : ¬ blk = g2 := by omega
  have hb3 : ¬ blk = g3 := by omega
  refine ⟨((h.rw.keep q1 hb1).keep q2 hb2).keep q3 hb3, (p1.keep q2 h12).keep q3 h13, p2.keep q3 h23, p3, by simpa using s1, by simpa using s2, by simpa using s3, fun j hj => ?_, fun j hj => ?_, fun j hj => ?_, f1, f2, f3, fb, ((h.t1.set i _).keep q2 h12).keep q3 h13, ((h.t2.keep q1 (Ne.symm h12)).set i _).keep q3 h23, (((h.t3.keep q1 (Ne.symm h13)).keep q2 (Ne.symm h23)).set i _),
    ((h.kp.trans q1 fun k hk e => by omega).trans q2 fun k hk e => by omega).trans q3 fun k hk e => by omega⟩
  · by_cases e : j = i
    · subst e; exact seti_self a1 _ (by omega)
    · rw [seti_ne a1 _ e (by omega)]; exact h.e1 j (by omega)
  · by_cases e : j = i
    · subst e; exact seti_self a2 _ (by omega)
    · rw [seti_ne a2 _ e (by omega)]; exact h.e2 j (by omega)
  · by_cases e : j = i
    · subst e; exact seti_self a3 _ (by omega)
    · rw [seti_ne a3 _ e (by omega)]; exact h.e3 j (by omega)

theorem own_S {w : World} {B S : Nat} {v : Value} {T : List UInt8} (h : Bld w B S v T) : S < w.heap.size := by
  obtain ⟨q, hb, _⟩ := h.bS
  exact lt_of_cells hb
theorem results_tmp5 {fn : Func} {t1 t2 t3 t4 t5 : Tmp} (h : fn.results = #[.tmp t1, .tmp t2, .tmp t3, .tmp t4, .tmp t5]) (tmps : Array Value) (P : Program) (w : World) :
    (results fn tmps).run P w = .ok (.tuple #[tmps.getD t1 undef, tmps.getD t2 undef, tmps.getD t3 undef, tmps.getD t4 undef, tmps.getD t5 undef]) w := by
  simp [results, h]
theorem bld_new (B : Nat) (w : World) : Bld (w.alloc (.cells #[.pointer none, .slice none 0 0] 42)) B w.heap.size (.slice none 0 0) [] :=
  ⟨⟨none, by show (w.heap.push _)[w.heap.size]? = _; simp, .inl rfl⟩, rfl, .inl ⟨rfl, rfl⟩⟩

theorem Rng.zip {n : Nat} {x y z : Array Int} (h : ∀ i, i < n → Rng (x[i]!, y[i]!, z[i]!)) : ∀ v ∈ (zip3 n x y z).toList, Rng v := by
  intro v hv
  obtain ⟨i, hi, rfl⟩ := List.getElem_of_mem hv
  have hi' : i < n := by simpa [zip3_size] using hi
  have e := zip3_get x y z hi'
  rw [bang_get _ (by rw [zip3_size]; exact hi')] at e
  have e2 : (zip3 n x y z).toList[i] = (zip3 n x y z)[i]'(by rw [zip3_size]; exact hi') := by simp
  rw [e2, e]
  exact h i hi'

theorem C3.zip {w2 wr : World} {blk g1 g2 g3 n : Nat} {d : Array R3} {a1 a2 a3 : Array Int} (h : C3 w2 wr blk g1 g2 g3 n n d a1 a2 a3) (hd : d.size = n) : zip3 n a1 a2 a3 = d := by
  refine Array.ext (by rw [zip3_size]; exact hd.symm) fun t h1 h2 => ?_
  rw [← bang_get _ h1, ← bang_get _ h2, zip3_get _ _ _ (by omega), h.e1 t (by omega), h.e2 t (by omega), h.e3 t (by omega)]

set_option maxHeartbeats 4000000 in
set_option maxRecDepth 100000 in
theorem zzw_any (B : Nat) (w : World) (p1 p2 p3 : Option Addr) (n c1 c2 c3 : Nat) (x y z : Array Int) (h1 : Hid (Col w p1 n x)) (h2 : Hid (Col w p2 n y)) (h3 : Hid (Col w p3 n z)) (hsz : n ≤ 32768) (hB : B ≤ w.heap.size) (htab : Hid (Tb B w)) (hrng : Hid (∀ i, i < n → Rng (x[i]!, y[i]!, z[i]!))) :
    Calls Tryd.prog 14 #[.slice p1 n c1, .slice p2 n c2, .slice p3 n c3] w fun e w' => ∃ (d' : Array R3) (g1 g2 g3 : Nat) (a1 a2 a3 : Array Int), e = .returned (.tuple #[.string ⟨(text3 d'.toList).toArray⟩, .slice (some ⟨g1, 0, none⟩) n n, .slice (some ⟨g2, 0, none⟩) n n, .slice (some ⟨g3, 0, none⟩) n n, .bool false]) ∧
      PermIn 0 n (zip3 n x y z) d' ∧ SortedIn lt2 0 n d' ∧ Col w' (some ⟨g1, 0, none⟩) n a1 ∧ Col w' (some ⟨g2, 0, none⟩) n a2 ∧ Col w' (some ⟨g3, 0, none⟩) n a3 ∧ zip3 n a1 a2 a3 = d' ∧ Kp (fun _ => False) w w' := by
  have mk := make52 n (by omega)
  have mk2 := make22 n (by omega)
  have F0 := Hid.lay (Fl.start w n (zip3 n x y z) 54)
  go_enter Tryd.func14, Tryd.ntmps14
  go_wp2_with fail
  clear mk
  go_loopw [24] (fun s wr => ∃ (i : Nat) (a : Array R3), i ≤ n ∧ s = .int .i64 i ∧ Hid (Fl w wr w.heap.size n i (zip3 n x y z) a)) (fun s _ => n - (intOf s).toNat)
  case atStart => exact ⟨0, _, Nat.zero_le _, rfl, F0⟩
  case round =>
    obtain ⟨i, a, hi, rfl, HF⟩ := hrel
    clear F0
    by_cases hin : i < n
    · have hin' : decide ((i : Int) < n) = true := by simp; omega
      obtain ⟨g1, rfl, r1⟩ := (h1.out.keep HF.out.kp).at hin
      obtain ⟨g2, rfl, r2⟩ := (h2.out.keep HF.out.kp).at hin
      obtain ⟨g3, rfl, r3⟩ := (h3.out.keep HF.out.kp).at hin
      obtain ⟨c1, c2, c3⟩ := HF.out.ra.cells i (by rw [HF.out.sa]; exact hin)
      obtain ⟨f1, f2, f3⟩ := HF.out.ra.frozen i (by rw [HF.out.sa]; exact hin)
      have HS := Hid.lay (HF.out.step hin)
      have hk2 := Hid.lay (fun m => And.intro ((h1.out.keep (HS.out m).kp).cell hin) (And.intro ((h2.out.keep (HS.out m).kp).cell hin) ((h3.out.keep (HS.out m).kp).cell hin)))
      rw [zip3_get x y z hin] at HS hk2
      generalize hX : x[i]! = X at *
      generalize hY : y[i]! = Y at *
      generalize hZ : z[i]! = Z at *
      have HX := Hid.lay (And.intro hX (And.intro hY hZ))
      clear hX hY hZ
      generalize hD : zip3 n x y z = D at *
      have HD := Hid.lay hD
      clear hD
      go_wp2_with fail
      go_region_held3 (fun w' => w'.cell? ⟨g1, i, none⟩ = some (.int .i64 X) ∧ w'.cell? ⟨g2, i, none⟩ = some (.int .i64 Y) ∧ w'.cell? ⟨g3, i, none⟩ = some (.int .i64 Z)) (first | exact ⟨r1, r2, r3⟩ | exact hk2.out 1 | go_keep) (fail)
      all_goals
        clear r1 r2 r3 c1 c2 c3 f1 f2 f3
        go_wp2_with fail
        exact ⟨⟨i + 1, _, hin, by simp, HS.out 1⟩, by simp [intOf]; omega⟩
    · have hin' : decide ((i : Int) < n) = false := by simp; omega
      obtain rfl : i = n := by omega
      have ha := HF.out.done (zip3_size i x y z)
      subst ha
      have hk0 := Hid.lay (Kp.alloc' wr (.cells #[.pointer none, .slice none 0 0] 42))
      have HRW := Hid.lay (HF.out.ra.keep hk0.out (fun e => e))
      have HBd := Hid.lay (bld_new B wr)
      have HT := Hid.lay ((htab.out.keep hB HF.out.kp (fun _ e => e.elim)).keep (Nat.le_trans hB HF.out.kp.size) hk0.out (fun _ e => e.elim))
      have hlt := HF.out.ra.lt
      go_wp2_with fail
      refine (rcp_any B _ w.heap.size wr.heap.size i i (zip3 i x y z) HRW (zip3_size i x y z) hsz HBd (by omega) (by omega) hB (by simp; omega) HT (Rng.zip hrng.out)).mono ?_
      rintro e w2 ⟨rfl, d', v', hr2, hp, hq, hbd, hnil, hv, k⟩
      have HK2 := Hid.lay ((HF.out.kp.trans hk0.out fun _ _ e => e).trans k fun k hk e => by rcases e with e | e <;> omega)
      have HP := Hid.lay hp
      have HQ := Hid.lay hq
      have HB2 := Hid.lay hbd
      have HNil := Hid.lay hnil
      have HV := Hid.lay hv
      have C0 := Hid.lay (C3.start (n := i) hr2)
      have hd' : d'.size = i := hp.1.trans (zip3_size i x y z)
      clear hp hq hbd hnil hv k hr2 HRW HBd HT hk0
      go_wp2_with fail
      clear mk2
      go_loopw [58] (fun s wx => ∃ (k : Nat) (a1 a2 a3 : Array Int), k ≤ i ∧ s = .int .i64 k ∧ Hid (C3 w2 wx w.heap.size w2.heap.size (w2.heap.size + 1) (w2.heap.size + 1 + 1) i k d' a1 a2 a3)) (fun s _ => i - (intOf s).toNat)
      case atStart => exact ⟨0, _, _, _, Nat.zero_le _, rfl, C0⟩
      case round =>
        obtain ⟨k, a1, a2, a3, hk, rfl, HC⟩ := hrel
        clear C0
        by_cases hki : k < i
        · have hki' : decide ((k : Int) < i) = true := by simp; omega
          obtain ⟨r1, r2, r3⟩ := HC.out.rw.cells k (by omega)
          obtain ⟨u1, t1⟩ := HC.out.r1.cell (i := k) (by rw [HC.out.s1]; exact hki)
          obtain ⟨u2, t2⟩ := HC.out.r2.cell (i := k) (by rw [HC.out.s2]; exact hki)
          obtain ⟨u3, t3⟩ := HC.out.r3.cell (i := k) (by rw [HC.out.s3]; exact hki)
          have n1 : w.heap.size ≠ w2.heap.size := by have := HC.out.fb; omega
          have n2 : w.heap.size ≠ w2.heap.size + 1 := by have := HC.out.fb; omega
          have n3 : w.heap.size ≠ w2.heap.size + 1 + 1 := by have := HC.out.fb; omega
          have HS := Hid.lay (HC.out.step hki (by omega) (by omega) (by omega))
          generalize d'[k]! = X at *
          obtain ⟨X1, X2, X3⟩ := X
          dsimp only at *
          go_wp2_with fail
          exact ⟨⟨k + 1, _, _, _, hki, by simp, HS⟩, by simp [intOf]; omega⟩
        · have hki' : decide ((k : Int) < i) = false := by simp; omega
          obtain rfl : k = i := by omega
          go_wp2_with fail
          have hzip := Hid.lay (HC.out.zip hd')
          have HB3 := Hid.lay (HB2.out.keep (HC.out.kp.trans ((Kp.refl (fun _ => False) wr).drew 1) fun _ _ e => e) (fun e => e) (fun _ _ e => e))
          have HV2 := Hid.lay (fun g (e : v'.ownBlock = some g) => show w.heap.size ≤ g by have := HV.out g e; rw [World.size_alloc] at this; omega)
          have hsz2 : w.heap.size ≤ (wr.drewN 1).heap.size := Nat.le_trans HK2.out.size HC.out.kp.size
          have HSl := Hid.lay (own_S HB2.out)
          go_region_held3 (fun _ => True) (trivial) ((go_at_call 20; refine (bstring_any B w.heap.size _ v' (text3 d'.toList) _ HB3.out (Nat.le_of_lt hlt) HV2.out hsz2).mono ?_; rintro e w4 ⟨rfl, b4, o4⟩; have HB4 := Hid.lay b4; have HO4 := Hid.lay o4; clear b4 o4))
          all_goals
            go_wp2_with fail
            refine bodyPost_ret (results_tmp5 rfl _ _ _) rfl ?_
            have f1 := HC.out.f1
            have f2 := HC.out.f2
            have f3 := HC.out.f3
            have hSl := HSl.out
            have kw := HK2.out.trans HC.out.kp fun _ _ e => e
            exact ⟨d', _, _, _, a1, a2, a3, rfl, HP.out, HQ.out, (HC.out.r1.other HC.out.t1 HO4.out (by omega)).col HC.out.s1, (HC.out.r2.other HC.out.t2 HO4.out (by omega)).col HC.out.s2, (HC.out.r3.other HC.out.t3 HO4.out (by omega)).col HC.out.s3, hzip.out,
              HB4.out.os.trans kw.os, HB4.out.tape.trans kw.tape, HB4.out.output.trans kw.output, Nat.le_trans kw.size HB4.out.size, fun k hk _ => (HB4.out.block k hk).trans (kw.block k hk (fun e => e))⟩
end Go.Proofs.Qxb6609202aDoor.Wr
