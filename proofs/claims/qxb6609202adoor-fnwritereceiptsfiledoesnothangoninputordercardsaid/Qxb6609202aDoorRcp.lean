/-
  WriteReceipts (21).
-/
import Derived.Test.Qxb6609202aDoorLn
import Derived.Test.Qxb6609202aDoorRw
import Derived.Test.Qxb6609202aDoorSl
import Derived.Lib.ItoaLen
namespace Go.Proofs.Qxb6609202aDoor.Wr
open Go.RowKit Go.Lib Go.Sort

def Rng (x : R3) : Prop := (-9223372036854775808 ≤ x.1 ∧ x.1 ≤ 9223372036854775807) ∧ (-9223372036854775808 ≤ x.2.1 ∧ x.2.1 ≤ 9223372036854775807) ∧ (-9223372036854775808 ≤ x.2.2 ∧ x.2.2 ≤ 9223372036854775807)

theorem line3_length (x : R3) (h : Rng x) : (line3 x).length ≤ 66 := by
  have h1 := Lib.itoa_length_le x.1 h.1.1 h.1.2
  have h2 := Lib.itoa_length_le x.2.1 h.2.1.1 h.2.1.2
  have h3 := Lib.itoa_length_le x.2.2 h.2.2.1 h.2.2.2
  simp [line3]
  omega
theorem text3_length : ∀ (l : List R3), (∀ x ∈ l, Rng x) → (text3 l).length ≤ 66 * l.length
  | [], _ => Nat.le_refl _
  | x :: l, h => by
    have h1 := line3_length x (h x (by simp))
    have h2 := text3_length l (fun y hy => h y (by simp [hy]))
    simp [text3] at *
    omega

/-- one round: the receipt's copy at block q besides -/
structure Rnd (B : Nat) (w2 w : World) (S W F : Nat) (v ln : Value) (T P L : List UInt8) (q : Nat) (x : R3) : Prop where
  lp : Lp B w2 w S W F v ln T P L
  c0 : w.cell? ⟨q, 0, none⟩ = some (.int .i64 x.1)
  c1 : w.cell? ⟨q, 1, none⟩ = some (.int .i64 x.2.1)
  c2 : w.cell? ⟨q, 2, none⟩ = some (.int .i64 x.2.2)
  nq : ∀ g, ln.ownBlock = some g → g ≠ q
theorem Rnd.keep {B : Nat} {w2 w w' : World} {S W F : Nat} {v ln : Value} {T P L : List UInt8} {q : Nat} {x : R3} (h : Rnd B w2 w S W F v ln T P L q x) (k : Kp (fun _ => False) w w') : Rnd B w2 w' S W F v ln T P L q x :=
  ⟨h.lp.keep k, k.cell h.c0 (fun e => e), k.cell h.c1 (fun e => e), k.cell h.c2 (fun e => e), h.nq⟩
theorem Rnd.grow {B : Nat} {w2 w w' : World} {S W F : Nat} {v ln ln' : Value} {T P L L' : List UInt8} {q : Nat} {x : R3} (h : Rnd B w2 w S W F v ln T P L q x) (f : Fr ln ln' w w') (o : w'.ownsRow B 5 1 ln' L'.length (Lib.byteCells L')) : Rnd B w2 w' S W F v ln' T P L' q x := by
  have k := Kp.of_fr f
  have hq : ¬ ln.ownBlock = some q := fun e => h.nq q e rfl
  refine ⟨h.lp.grow f o, k.cell h.c0 hq, k.cell h.c1 hq, k.cell h.c2 hq, fun g hg => ?_⟩
  rcases f.blk with e | ⟨g', e, hge⟩
  · exact h.nq g (e ▸ hg)
  · obtain rfl : g' = g := by rw [e] at hg; exact Option.some.inj hg
    have := World.block_lt_of_cell? w _ h.c0
    dsimp only at this
    omega
/-- .. by a numeral -/
theorem Rnd.num {B : Nat} {w2 w w' : World} {S W F : Nat} {v ln ln' : Value} {T P L : List UInt8} {q : Nat} {x : R3} (h : Rnd B w2 w S W F v ln T P L q x) (i : Int) (f : Fr ln ln' w w') (o : w'.ownsRow B 5 1 ln' (L.length + (Lib.itoa i).length) (Lib.byteCells L ++ Lib.byteCells (Lib.itoa i))) : Rnd B w2 w' S W F v ln' T P (L ++ Lib.itoa i) q x :=
  h.grow f (by rw [List.length_append, Lib.byteCells_append]; exact o)
/-- .. by a byte that was laid in a new block -/
theorem Rnd.byte {B : Nat} {w2 w w' : World} {S W F : Nat} {v ln ln' : Value} {T P L : List UInt8} {q : Nat} {x : R3} (h : Rnd B w2 w S W F v ln T P L q x) (b : UInt8) (o1 : Obj) (f : Fr ln ln' (w.alloc o1) w') (o : w'.ownsRow B 5 1 ln' (L.length + 1) (Lib.byteCells L ++ [.int .u8 b.toNat])) : Rnd B w2 w' S W F v ln' T P (L ++ [b]) q x :=
  (h.keep (Kp.alloc' w o1)).grow f (by rw [List.length_append, Lib.byteCells_append]; exact o)

theorem Rnd.start {B : Nat} {w2 w : World} {S W F : Nat} {v ln : Value} {T P L : List UInt8} (h : Lp B w2 w S W F v ln T P L) (x : R3) (t : TypeId) : Rnd B w2 (w.alloc (.cells #[.int .i64 x.1, .int .i64 x.2.1, .int .i64 x.2.2] t)) S W F v ln T P L w.heap.size x :=
  ⟨h.keep (Kp.alloc' w _), by simp, by simp, by simp, fun g hg => by have := own_lt h.own hg; omega⟩
/-- what lies in an own row that is not empty -/
theorem own_news {B : Nat} {w : World} {ln : Value} {L : List UInt8} (h : w.ownsRow B 5 1 ln L.length (Lib.byteCells L)) (h0 : 0 < L.length) :
    ∃ g cap, ln = .slice (some ⟨g, 0, none⟩) L.length cap ∧ L.length ≤ cap ∧ ∀ j u, (Lib.byteCells L)[j]? = some u → w.cell? ⟨g, j, none⟩ = some u := by
  rcases h.2 with ⟨_, h1⟩ | ⟨g, cap, cur, rfl, hg, hh, h1, h2, h3, h4⟩
  · omega
  · refine ⟨g, cap, rfl, h1, fun j u hj => ?_⟩
    rw [Lib.cell_of_heap hh]
    rw [← h4, List.getElem?_take] at hj
    split at hj
    · simpa using hj
    · cases hj

theorem Lp.start {B : Nat} {w2 w3 : World} {S : Nat} (s3 : Snk w3 B S (w2.heap.size + 1) w2.heap.size (.slice none 0 0) [] []) (k3 : Kp (fun _ => False) w2 w3) (hBS : B ≤ S) (hB : B ≤ w2.heap.size) (ht : Tb B w2) : Lp B w2 w3 S (w2.heap.size + 1) w2.heap.size (.slice none 0 0) (.slice none 0 0) [] [] [] :=
  ⟨s3, ⟨rfl, .inl ⟨rfl, rfl⟩⟩, (fun _ e => by cases e), (fun _ e => by cases e), (fun _ e => by cases e), Nat.le_succ _, Nat.le_refl _, hBS, hB, ht.keep hB k3 (fun _ e => e.elim), k3.mono fun _ _ e => e.elim⟩

set_option maxHeartbeats 4000000 in
set_option maxRecDepth 100000 in
theorem rcp_any (B : Nat) (w : World) (blk S c n : Nat) (d : Array R3) (hr : Hid (RW w blk d)) (hn : d.size = n) (hsz : n ≤ 32768) (hb : Hid (Bld w B S (.slice none 0 0) [])) (hS : blk ≠ S) (hBS : B ≤ S) (hBb : B ≤ blk) (hB : B ≤ w.heap.size) (htab : Hid (Tb B w))
    (hrng : Hid (∀ x ∈ d.toList, Rng x)) :
    Calls Tryd.prog 21 #[.iface 40 (.pointer (some ⟨S, 0, none⟩)), .slice (some ⟨blk, 0, none⟩) n c] w fun e w' => e = .returned .nilIface ∧ ∃ (d' : Array R3) (v' : Value), RW w' blk d' ∧ PermIn 0 n d d' ∧ SortedIn lt2 0 n d' ∧ Bld w' B S v' (text3 d'.toList) ∧ (text3 d'.toList = [] → v' = .slice none 0 0) ∧ (∀ g, v'.ownBlock = some g → w.heap.size ≤ g) ∧ Kp (fun k => k = S ∨ k = blk) w w' := by
  have hs : Hid (SR (w.alloc (.cells #[.slice (some ⟨blk, 0, none⟩) n c] 52)) blk w.heap.size c d) := ⟨(hr.out.keep (Kp.alloc' w _) (fun e => e)).row, by simp [hn], by have := hr.out.lt; omega, by have := hr.out.lt; simp; omega⟩
  go_enter Tryd.func21, Tryd.ntmps21
  go_wp2_with (go_at_call 30; refine (slice_any _ blk w.heap.size c n d hs hn hsz).mono ?_; rintro e w2 ⟨rfl, d', s2, p2, q2, k2⟩; have HS2 := Hid.lay s2; have HP2 := Hid.lay p2; have HQ2 := Hid.lay q2; have HK2 := Hid.lay ((Kp.alloc' w _).mono (A := fun k => k = blk) (fun _ _ e => e.elim) |>.trans k2 (fun _ _ e => e)); clear s2 p2 q2 k2)
  have hd' : d'.size = n := HP2.out.1.trans hn
  have HBd := Hid.lay (hb.out.keep HK2.out (fun e => hS e.symm) (fun _ e => by cases e))
  have hB2 : B ≤ w2.heap.size := Nat.le_trans hB HK2.out.size
  have HT2 := Hid.lay (htab.out.keep hB HK2.out (fun i e => by omega))
  have HR' := Hid.lay (fun x (hx : x ∈ d'.toList) => hrng.out x ((perm_of_in (by rw [hn]; exact HP2.out)).mem_iff.1 hx))
  refine (newwriter_any B S (.slice none 0 0) [] w2 HBd (fun _ => rfl)).mono ?_
  rintro e w3 ⟨rfl, s3, k3⟩
  have HL0 := Hid.lay (Lp.start s3 k3 hBS hB2 HT2.out)
  have cap := k3.cell HS2.out.cap (fun e => e)
  rw [hd'] at cap
  have hlt2 := HS2.out.lt
  have hBs : w.heap.size < w2.heap.size := World.block_lt_of_cell? w2 _ HS2.out.cap
  have HRW := Hid.lay (RW.mk HS2.out.row HS2.out.lt)
  clear s3 k3 HBd HT2
  go_wp2_with fail
  go_loopw [6, 19] (fun s6 s19 wr => ∃ (i : Nat) (v : Value) (T P L : List UInt8), i ≤ n ∧ s19 = .int .i64 i ∧ Hid (Lp B w2 wr S (w2.heap.size + 1) w2.heap.size v s6 T P L) ∧ Hid (T ++ P = text3 (d'.toList.take i))) (fun _ s _ => n - (intOf s).toNat)
  case atStart => exact ⟨0, _, _, _, _, Nat.zero_le _, rfl, HL0, rfl⟩
  case round =>
    obtain ⟨i, v, T, P, L, hi, rfl, HL, HE⟩ := hrel
    by_cases hin : i < n
    · have hin' : decide ((i : Int) < n) = true := by simp; omega
      have hW := Hid.lay (HRW.out.keep HL.out.kp hS)
      obtain ⟨r1, r2, r3⟩ := hW.out.cells i (by omega)
      have hx := HR'.out d'[i]! (by rw [bang_get d' (by omega)]; exact Array.getElem_mem_toList (by omega))
      obtain ⟨ln0, hcut, ho0, hblk0⟩ := cut_line HL.out.own
      have HL1 := Hid.lay ((HL.out.cut ho0 hblk0))
      clear ho0 hblk0
      generalize hX : d'[i]! = X at *
      obtain ⟨x1, x2, x3⟩ := X
      dsimp only at *
      go_wp2_with fail
      have HN := Hid.lay (Rnd.start HL1.out (x1, x2, x3) 54)
      have hB1 := HN.out.lp.hB
      have hl1 := Lib.itoa_length_le x1 hx.1.1 hx.1.2
      have hl2 := Lib.itoa_length_le x2 hx.2.1.1 hx.2.1.2
      have hl3 := Lib.itoa_length_le x3 hx.2.2.1 hx.2.2.2
      have c0 := HN.out.c0
      have htl := text3_length (d'.toList.take i) (fun y hy => HR'.out y (List.mem_of_mem_take hy))
      rw [← HE.out, List.length_append] at htl
      have htl2 : (d'.toList.take i).length ≤ n := by rw [List.length_take]; omega
      dsimp only at c0 HN hB1
      generalize wr.alloc (.cells #[.int .i64 x1, .int .i64 x2, .int .i64 x3] 54) = wq at *
      generalize wr.heap.size = q at *
      clear HL HL1 hW r1 r2 r3
      go_region_held3 (fun w' => w'.cell? ⟨q, 0, none⟩ = some (.int .i64 x1)) (first | exact hkeep | exact c0 | go_keep) ((go_at_call 25; have HN0 := Hid.lay (HN.out.keep ((Kp.refl _ wq).drew 1)); refine (appendInt_any B 0 x1 hx.1.1 hx.1.2 ln0 [] _ (Hid.lay HN0.out.lp.own) HN0.out.lp.hB (by omega) (Hid.lay HN0.out.lp.tab)).mono ?_; rintro e w5 ⟨ln1, rfl, o1, f1⟩; have HN1 := Hid.lay (HN0.out.num x1 f1 o1); have hkeep := HN1.out.c0; clear o1 f1 HN0))
      all_goals
        clear c0 HN hcut
        have hlen1 : ([] ++ Lib.itoa x1).length ≤ 21 := by simpa using hl1
        go_wp2_with (at_builtin; refine wp_ap rfl (.tmp 28) (.tmp 29) rfl B ([] ++ Lib.itoa x1).length ln1 (Lib.byteCells ([] ++ Lib.itoa x1)) rfl (HN1.out.lp.own.alloc _) ⟨w5.heap.size, 0, none⟩ 1 1 [Value.int .u8 44] rfl rfl (one_new _ _ _) (one_cell _) (by omega) (by simp; have := HN1.out.lp.hB; omega) ?_; intro ln2 w6 o2 f2; have HN2 := Hid.lay (HN1.out.byte 44 _ f2 o2); have c1 := HN2.out.c1; clear o2 f2 hkeep HN1)
        have hlen2 : ([] ++ Lib.itoa x1 ++ [44]).length ≤ 22 := by simp; omega
        refine (appendInt_any B ([] ++ Lib.itoa x1 ++ [44]).length x2 hx.2.1.1 hx.2.1.2 ln2 (Lib.byteCells ([] ++ Lib.itoa x1 ++ [44])) w6 (Hid.lay HN2.out.lp.own) HN2.out.lp.hB (by omega) (Hid.lay HN2.out.lp.tab)).mono ?_
        rintro e w7 ⟨ln3, rfl, o, f⟩
        have HN3 := Hid.lay (HN2.out.num x2 f o)
        clear o f HN2 c1
        have hlen3 : ([] ++ Lib.itoa x1 ++ [44] ++ Lib.itoa x2).length ≤ 43 := by simp; omega
        go_wp2_with (at_builtin; refine wp_ap rfl (.tmp 35) (.tmp 36) rfl B ([] ++ Lib.itoa x1 ++ [44] ++ Lib.itoa x2).length ln3 (Lib.byteCells ([] ++ Lib.itoa x1 ++ [44] ++ Lib.itoa x2)) rfl (HN3.out.lp.own.alloc _) ⟨w7.heap.size, 0, none⟩ 1 1 [Value.int .u8 44] rfl rfl (one_new _ _ _) (one_cell _) (by omega) (by simp; have := HN3.out.lp.hB; omega) ?_; intro ln4 w8 o f; have HN4 := Hid.lay (HN3.out.byte 44 _ f o); have c2 := HN4.out.c2; clear o f HN3 )
        have hlen4 : ([] ++ Lib.itoa x1 ++ [44] ++ Lib.itoa x2 ++ [44]).length ≤ 44 := by simp; omega
        refine (appendInt_any B ([] ++ Lib.itoa x1 ++ [44] ++ Lib.itoa x2 ++ [44]).length x3 hx.2.2.1 hx.2.2.2 ln4 (Lib.byteCells ([] ++ Lib.itoa x1 ++ [44] ++ Lib.itoa x2 ++ [44])) w8 (Hid.lay HN4.out.lp.own) HN4.out.lp.hB (by omega) (Hid.lay HN4.out.lp.tab)).mono ?_
        rintro e w9 ⟨ln5, rfl, o, f⟩
        have HN5 := Hid.lay (HN4.out.num x3 f o)
        clear o f HN4 c2
        have hlen5 : ([] ++ Lib.itoa x1 ++ [44] ++ Lib.itoa x2 ++ [44] ++ Lib.itoa x3).length ≤ 65 := by simp; omega
        go_wp2_with (at_builtin; refine wp_ap rfl (.tmp 42) (.tmp 43) rfl B ([] ++ Lib.itoa x1 ++ [44] ++ Lib.itoa x2 ++ [44] ++ Lib.itoa x3).length ln5 (Lib.byteCells ([] ++ Lib.itoa x1 ++ [44] ++ Lib.itoa x2 ++ [44] ++ Lib.itoa x3)) rfl (HN5.out.lp.own.alloc _) ⟨w9.heap.size, 0, none⟩ 1 1 [Value.int .u8 10] rfl rfl (one_new _ _ _) (one_cell _) (by omega) (by simp; have := HN5.out.lp.hB; omega) ?_; intro ln6 wA o f; have HN6 := Hid.lay (HN5.out.byte 10 _ f o); clear o f HN5 )
        have hline : [] ++ Lib.itoa x1 ++ [44] ++ Lib.itoa x2 ++ [44] ++ Lib.itoa x3 ++ [10] = line3 (x1, x2, x3) := rfl
        rw [hline] at HN6
        have hlenL := line3_length (x1, x2, x3) hx
        have hpos : 0 < (line3 (x1, x2, x3)).length := by simp [line3]; omega
        obtain ⟨G, cp, rfl, hcp, hnews⟩ := own_news HN6.out.lp.own hpos
        refine (wwrite_any B S (w2.heap.size + 1) w2.heap.size G cp v T P (line3 (x1, x2, x3)) wA (Hid.lay HN6.out.lp.snk) (by omega) hcp (Hid.lay hnews) (Hid.lay (HN6.out.lp.ap G rfl)) (by omega) HN6.out.lp.hB).mono ?_
        rintro e wB ⟨rfl, v', T', P', s, e2, k, b⟩
        have HL2 := Hid.lay (HN6.out.lp.wrote s k b)
        have HE2 : Hid (T' ++ P' = text3 (d'.toList.take (i + 1))) := by
          show _ = _
          rw [e2, HE.out, List.take_succ_eq_append_getElem (by simpa using (by omega : i < d'.size)), text3, text3, List.flatMap_append]
          congr 1
          simp only [List.flatMap_cons, List.flatMap_nil, List.append_nil]
          rw [← hX, bang_get d' (by omega)]
          simp
        clear s k b e2 hnews HN6
        go_wp2_with fail
        exact ⟨⟨i + 1, v', T', P', _, by omega, by simp, HL2, HE2⟩, by simp [intOf]; omega⟩
    · have hin' : decide ((i : Int) < n) = false := by simp; omega
      obtain rfl : i = n := by omega
      have htl := text3_length (d'.toList.take i) (fun y hy => HR'.out y (List.mem_of_mem_take hy))
      have htl2 : (d'.toList.take i).length ≤ i := by rw [List.length_take]; omega
      rw [← HE.out, List.length_append] at htl
      go_wp2_with fail
      refine (flush_any B S (w2.heap.size + 1) w2.heap.size v T P wr HL.out.snk (by omega) HL.out.hB).mono ?_
      rintro e wB ⟨rfl, v', s, k, b⟩
      have HL2 := Hid.lay (HL.out.wrote s (k.mono (fun _ _ e => by rcases e with e | e | e <;> simp [e])) b)
      rw [HE.out, show d'.toList.take i = d'.toList from List.take_of_length_le (by simp; omega)] at HL2
      clear s k b
      go_wp2_with fail
      go_ret
      exact ⟨rfl, d', v', HRW.out.keep HL2.out.kp hS, HP2.out, HQ2.out, HL2.out.snk.bld, HL2.out.snk.hnil, fun g hg => Nat.le_trans HK2.out.size (HL2.out.lv g hg), (HK2.out.mono fun _ _ e => .inr e).trans HL2.out.kp fun _ _ e => .inl e⟩
end Go.Proofs.Qxb6609202aDoor.Wr
