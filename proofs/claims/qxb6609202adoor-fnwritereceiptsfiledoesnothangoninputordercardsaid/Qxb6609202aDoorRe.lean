/-
  zzb1Render (17); the two guards on total length (13, 18).
-/
import Derived.Test.Qxb6609202aDoorRcp
import Derived.Laws.BytesArg
namespace Go.Proofs.Qxb6609202aDoor.Wr
open Go.RowKit Go.Lib Go.Sort

/-- the text in hand, the row besides -/
structure Rt (B : Nat) (w0 w : World) (blk : Nat) (d : Array R3) (ln : Value) (L : List UInt8) : Prop where
  ra : RW w blk d
  own : w.ownsRow B 5 1 ln L.length (Lib.byteCells L)
  ll : ∀ g, ln.ownBlock = some g → w0.heap.size ≤ g
  lb : blk < w0.heap.size
  kp : Kp (fun _ => False) w0 w
theorem Rt.keep {B : Nat} {w0 w w' : World} {blk : Nat} {d : Array R3} {ln : Value} {L : List UInt8} (h : Rt B w0 w blk d ln L) (k : Kp (fun _ => False) w w') : Rt B w0 w' blk d ln L :=
  ⟨h.ra.keep k (fun e => e), k.owns h.own (fun _ _ e => e), h.ll, h.lb, h.kp.trans k fun _ _ e => e⟩
theorem Rt.grow {B : Nat} {w0 w w' : World} {blk : Nat} {d : Array R3} {ln ln' : Value} {L L' : List UInt8} (h : Rt B w0 w blk d ln L) (f : Fr ln ln' w w') (o : w'.ownsRow B 5 1 ln' L'.length (Lib.byteCells L')) : Rt B w0 w' blk d ln' L' := by
  have k := Kp.of_fr f
  have hlb := h.lb
  refine ⟨h.ra.keep k fun e => by have := h.ll _ e; omega, o, fun g hg => ?_, h.lb, h.kp.trans k fun i hi e => absurd (h.ll i e) (by omega)⟩
  rcases f.blk with e | ⟨g', e, hge⟩
  · exact h.ll g (e ▸ hg)
  · obtain rfl : g' = g := by rw [e] at hg; exact Option.some.inj hg
    exact Nat.le_trans h.kp.size hge
theorem Rt.num {B : Nat} {w0 w w' : World} {blk : Nat} {d : Array R3} {ln ln' : Value} {L : List UInt8} (h : Rt B w0 w blk d ln L) (i : Int) (f : Fr ln ln' w w') (o : w'.ownsRow B 5 1 ln' (L.length + (Lib.itoa i).length) (Lib.byteCells L ++ Lib.byteCells (Lib.itoa i))) : Rt B w0 w' blk d ln' (L ++ Lib.itoa i) :=
  h.grow f (by rw [List.length_append, Lib.byteCells_append]; exact o)
theorem Rt.byte {B : Nat} {w0 w w' : World} {blk : Nat} {d : Array R3} {ln ln' : Value} {L : List UInt8} (h : Rt B w0 w blk d ln L) (b : UInt8) (o1 : Obj) (f : Fr ln ln' (w.alloc o1) w') (o : w'.ownsRow B 5 1 ln' (L.length + 1) (Lib.byteCells L ++ [.int .u8 b.toNat])) : Rt B w0 w' blk d ln' (L ++ [b]) :=
  (h.keep (Kp.alloc' w o1)).grow f (by rw [List.length_append, Lib.byteCells_append]; exact o)
theorem Rt.hB {B : Nat} {w0 w : World} {blk : Nat} {d : Array R3} {ln : Value} {L : List UInt8} (h : Rt B w0 w blk d ln L) (hB : B ≤ w0.heap.size) : B ≤ w.heap.size := Nat.le_trans hB h.kp.size

set_option maxRecDepth 100000 in
/-- string(b) of an own row -/
theorem conv_own {B : Nat} {w : World} {ln : Value} {L : List UInt8} (h : w.ownsRow B 5 1 ln L.length (Lib.byteCells L)) : (convert 26 9 ln).run Tryd.prog w = .ok (.string ⟨L.toArray⟩) w := by
  rcases h.2 with ⟨rfl, h0⟩ | ⟨g, cap, cur, rfl, hg, hh, h1, h2, h3, h4⟩
  · rw [run_convert_bytes_nil w 26 5 Tryd.underlying26 Tryd.underlying5 0 0 9 Tryd.underlying9, List.eq_nil_of_length_eq_zero h0]
    rfl
  · have hx := run_convert_bytes_arg (P := Tryd.prog) w 26 5 Tryd.underlying26 Tryd.underlying5 g 0 L.length cap (L.map fun b => (b.toNat : Int)) (by simp) (fun i hi => by
      rw [Lib.cell_of_heap hh, Nat.zero_add]
      have hj : (Lib.byteCells L)[i]? = some (.int .u8 (L[i].toNat : Int)) := by simp [Lib.byteCells, hi]
      rw [← h4, List.getElem?_take, if_pos (by omega)] at hj
      rw [show cur[i]? = cur.toList[i]? by simp, hj]
      simp [List.getD, hi]) 9 Tryd.underlying9
    rw [hx]
    congr 2
    unfold strOfNums
    congr 2
    rw [List.map_map]
    exact (List.map_congr_left fun b _ => by simp).trans (List.map_id' L)

set_option maxHeartbeats 4000000 in
set_option maxRecDepth 100000 in
theorem render_any (w : World) (blk c n : Nat) (d : Array R3) (hr : Hid (RW w blk d)) (hn : d.size = n) (hsz : n ≤ 32768) (hrng : Hid (∀ x ∈ d.toList, Rng x)) :
    Calls Tryd.prog 17 #[.slice (some ⟨blk, 0, none⟩) n c] w fun e w' => e = .returned (.string ⟨(text3 d.toList).toArray⟩) ∧ Kp (fun _ => False) w w' := by
  have R0 : Hid (Rt 0 w w blk d (.slice none 0 0) []) := ⟨hr.out, ⟨rfl, .inl ⟨rfl, rfl⟩⟩, fun g e => (by cases e), hr.out.lt, Kp.refl _ _⟩
  go_enter Tryd.func17, Tryd.ntmps17
  go_wp2_with fail
  go_loopw [3, 4] (fun s3 s4 wr => ∃ (i : Nat), i ≤ n ∧ s4 = .int .i64 i ∧ Hid (Rt 0 w wr blk d s3 (text3 (d.toList.take i)))) (fun _ s _ => n - (intOf s).toNat)
  case atStart => exact ⟨0, Nat.zero_le _, rfl, R0⟩
  case round =>
    obtain ⟨i, hi, rfl, HL⟩ := hrel
    clear R0
    have htl := text3_length (d.toList.take i) (fun y hy => hrng.out y (List.mem_of_mem_take hy))
    have htl2 : (d.toList.take i).length ≤ n := by rw [List.length_take]; omega
    by_cases hin : i < n
    · have hin' : decide ((i : Int) < n) = true := by simp; omega
      obtain ⟨r1, r2, r3⟩ := HL.out.ra.cells i (by omega)
      have hx := hrng.out d[i]! (by rw [bang_get d (by omega)]; exact Array.getElem_mem_toList (by omega))
      have HE := Hid.lay (show text3 (d.toList.take (i + 1)) = text3 (d.toList.take i) ++ line3 d[i]! by
        rw [List.take_succ_eq_append_getElem (by simpa using (by omega : i < d.size)), text3, text3, List.flatMap_append]
        congr 1
        simp only [List.flatMap_cons, List.flatMap_nil, List.append_nil]
        rw [bang_get d (by omega)]
        simp)
      generalize hX : d[i]! = X at *
      obtain ⟨x1, x2, x3⟩ := X
      have hl1 := Lib.itoa_length_le x1 hx.1.1 hx.1.2
      have hl2 := Lib.itoa_length_le x2 hx.2.1.1 hx.2.1.2
      have hl3 := Lib.itoa_length_le x3 hx.2.2.1 hx.2.2.2
      dsimp only at *
      generalize text3 (d.toList.take i) = L at *
      have HX := Hid.lay hX
      clear hX
      go_wp2_with fail
      refine (zzint_any 0 L.length x1 hx.1.1 hx.1.2 u3 (Lib.byteCells L) wr HL.out.own (Nat.zero_le _) (by omega)).mono ?_
      rintro e w5 ⟨ln1, rfl, o, f⟩
      have HN1 := Hid.lay (HL.out.num x1 f o)
      clear o f HL r1 r2 r3
      have hlen1 : (L ++ Lib.itoa x1).length ≤ L.length + 21 := by simp; omega
      go_wp2_with (at_builtin; refine wp_ap rfl (.tmp 18) (.tmp 19) rfl 0 (L ++ Lib.itoa x1).length ln1 (Lib.byteCells (L ++ Lib.itoa x1)) rfl (HN1.out.own.alloc _) ⟨w5.heap.size, 0, none⟩ 1 1 [Value.int .u8 44] rfl rfl (one_new _ _ _) (one_cell _) (by omega) (Nat.zero_le _) ?_; intro ln2 w6 o f; have HN2 := Hid.lay (HN1.out.byte 44 _ f o); obtain ⟨r1, r2, r3⟩ := HN2.out.ra.cells i (by omega); rw [HX.out] at r1 r2 r3; dsimp only at r1 r2 r3; clear o f HN1)
      have hlen2 : (L ++ Lib.itoa x1 ++ [44]).length ≤ L.length + 22 := by simp; omega
      refine (zzint_any 0 (L ++ Lib.itoa x1 ++ [44]).length x2 hx.2.1.1 hx.2.1.2 ln2 (Lib.byteCells (L ++ Lib.itoa x1 ++ [44])) w6 HN2.out.own (Nat.zero_le _) (by omega)).mono ?_
      rintro e w7 ⟨ln3, rfl, o, f⟩
      have HN3 := Hid.lay (HN2.out.num x2 f o)
      clear o f HN2 r1 r2 r3
      have hlen3 : (L ++ Lib.itoa x1 ++ [44] ++ Lib.itoa x2).length ≤ L.length + 43 := by simp; omega
      go_wp2_with (at_builtin; refine wp_ap rfl (.tmp 28) (.tmp 29) rfl 0 (L ++ Lib.itoa x1 ++ [44] ++ Lib.itoa x2).length ln3 (Lib.byteCells (L ++ Lib.itoa x1 ++ [44] ++ Lib.itoa x2)) rfl (HN3.out.own.alloc _) ⟨w7.heap.size, 0, none⟩ 1 1 [Value.int .u8 44] rfl rfl (one_new _ _ _) (one_cell _) (by omega) (Nat.zero_le _) ?_; intro ln4 w8 o f; have HN4 := Hid.lay (HN3.out.byte 44 _ f o); obtain ⟨r1, r2, r3⟩ := HN4.out.ra.cells i (by omega); rw [HX.out] at r1 r2 r3; dsimp only at r1 r2 r3; clear o f HN3)
      have hlen4 : (L ++ Lib.itoa x1 ++ [44] ++ Lib.itoa x2 ++ [44]).length ≤ L.length + 44 := by simp; omega
      refine (zzint_any 0 (L ++ Lib.itoa x1 ++ [44] ++ Lib.itoa x2 ++ [44]).length x3 hx.2.2.1 hx.2.2.2 ln4 (Lib.byteCells (L ++ Lib.itoa x1 ++ [44] ++ Lib.itoa x2 ++ [44])) w8 HN4.out.own (Nat.zero_le _) (by omega)).mono ?_
      rintro e w9 ⟨ln5, rfl, o, f⟩
      have HN5 := Hid.lay (HN4.out.num x3 f o)
      clear o f HN4 r1 r2 r3
      have hlen5 : (L ++ Lib.itoa x1 ++ [44] ++ Lib.itoa x2 ++ [44] ++ Lib.itoa x3).length ≤ L.length + 65 := by simp; omega
      go_wp2_with (at_builtin; refine wp_ap rfl (.tmp 38) (.tmp 39) rfl 0 (L ++ Lib.itoa x1 ++ [44] ++ Lib.itoa x2 ++ [44] ++ Lib.itoa x3).length ln5 (Lib.byteCells (L ++ Lib.itoa x1 ++ [44] ++ Lib.itoa x2 ++ [44] ++ Lib.itoa x3)) rfl (HN5.out.own.alloc _) ⟨w9.heap.size, 0, none⟩ 1 1 [Value.int .u8 10] rfl rfl (one_new _ _ _) (one_cell _) (by omega) (Nat.zero_le _) ?_; intro ln6 wA o f; have HN6 := Hid.lay (HN5.out.byte 10 _ f o); clear o f HN5)
      refine ⟨⟨i + 1, hin, by simp, ?_⟩, by simp [intOf]; omega⟩
      rw [HE.out]
      have e6 : L ++ Lib.itoa x1 ++ [44] ++ Lib.itoa x2 ++ [44] ++ Lib.itoa x3 ++ [10] = L ++ line3 (x1, x2, x3) := by simp [line3]
      rw [e6] at HN6
      exact HN6
    · have hin' : decide ((i : Int) < n) = false := by simp; omega
      obtain rfl : i = n := by omega
      rw [show d.toList.take i = d.toList from List.take_of_length_le (by simp; omega)] at HL
      have hcv := conv_own HL.out.own
      go_wp2_with fail
      go_ret
      exact ⟨rfl, HL.out.kp⟩

set_option maxHeartbeats 1000000 in
theorem bytes13_some (p1 p2 p3 : Option Addr) (n1 n2 n3 c1 c2 c3 : Nat) (w : World) (h1 : n1 ≤ 9223372036854775807) (h2 : n2 ≤ 9223372036854775807) (h3 : n3 ≤ 9223372036854775807) :
    Calls Tryd.prog 13 #[.slice p1 n1 c1, .slice p2 n2 c2, .slice p3 n3 c3] w fun e w' => (∃ b, e = .returned (.bool b)) ∧ w' = w := by
  go_enter Tryd.func13, Tryd.ntmps13
  go_wp2
  all_goals
    go_ret
    exact ⟨⟨_, rfl⟩, rfl⟩
set_option maxHeartbeats 1000000 in
theorem bytes18_some (p1 p2 p3 : Option Addr) (n1 n2 n3 c1 c2 c3 : Nat) (w : World) (h1 : n1 ≤ 9223372036854775807) (h2 : n2 ≤ 9223372036854775807) (h3 : n3 ≤ 9223372036854775807) :
    Calls Tryd.prog 18 #[.slice p1 n1 c1, .slice p2 n2 c2, .slice p3 n3 c3] w fun e w' => (∃ b, e = .returned (.bool b)) ∧ w' = w := by
  go_enter Tryd.func18, Tryd.ntmps18
  go_wp2
  all_goals
    go_ret
    exact ⟨⟨_, rfl⟩, rfl⟩
end Go.Proofs.Qxb6609202aDoor.Wr
