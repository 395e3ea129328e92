/-
  strconv.AppendInt (25), internal/strconv.AppendInt (33), AppendUint (42) at base 10, with the frame of 'Fr': over the shelf's contracts of what they call.
-/
import Derived.Test.Qxb6609202aDoorInt
import Derived.Test.Qxb6609202aDoorRows
import Derived.Shelf.Strconv.AppendUint10
import Derived.Lib.AppendStr
import Derived.Lib.AppendIntMem
namespace Go.Proofs.Qxb6609202aDoor.Wr
open Go.RowKit Go.Sort

/-- the name of the table of powers of ten, as the rows list it -/
def pw : String := (Rows.fnWriteReceiptsFileDoesNotHangOnInputOrderRow.laid.getD 2 ("", .nil)).1

theorem run_aps (w : World) (ty : TypeId) (B n : Nat) (v : Value) (xs : List Value) (hown : w.ownsRow B 5 1 v n xs) (s : ByteArray) (hlim : n + s.size ≤ 140737488355328) (hbase : B ≤ w.heap.size) :
    ∃ v' w', (Builtin.append_ #[26, 9] ty #[v, .string s]).run Tryd.prog w = .ok v' w' ∧ w'.ownsRow B 5 1 v' (n + s.size) (xs ++ Lib.strCells s) ∧ Fr v v' w w' := by
  obtain ⟨i0, hi, hz0, hz1, hz2⟩ := info_parts info5
  obtain ⟨v', w', hr, ho, hg, hnil⟩ := Lib.run_append_own_string (P := Tryd.prog) w B 26 9 ty 5 i0 Tryd.underlying26 Tryd.underlying9 hi hz0 hz1 hz2 v n xs hown s (by unfold maxLen; omega) hlim hbase
  refine ⟨v', w', hr, ho, hg, ?_⟩
  rcases hown.2 with ⟨rfl, rfl⟩ | ⟨g, cap, cur, rfl, hbg, hh, hnc, hcm, hcs, htake⟩
  · by_cases hm : s.size = 0
    · left; rw [hnil.2 ⟨rfl, hm⟩]
    · right
      have h2 := run_append_nil_string (P := Tryd.prog) w 26 9 ty 5 i0 (.int .u8 0) Tryd.underlying26 Tryd.underlying9 hi hz0 s (by omega) (by omega) (by rw [hz2]; omega)
      rw [hr] at h2
      cases h2
      exact ⟨_, rfl, Nat.le_refl _⟩
  · by_cases hroom : n + s.size ≤ cap
    · left
      have h2 := Lib.run_append_room_string (P := Tryd.prog) w 26 9 ty 5 i0 Tryd.underlying26 Tryd.underlying9 hi hz1 g n cap cur hh s hroom (by rw [hcs]; omega)
      rw [hr] at h2
      cases h2
      rfl
    · right
      have holds : ∀ j u, xs[j]? = some u → w.cell? ((⟨g, 0, none⟩ : Addr).add j) = some u := hown.cells (g := g) rfl
      have h2 := Lib.run_append_grow_string (P := Tryd.prog) w 26 9 ty 5 i0 (.int .u8 0) Tryd.underlying26 Tryd.underlying9 hi hz0 ⟨g, 0, none⟩ n cap xs (by rw [hz1]; exact hown.1) holds s (by omega) (by omega) (by rw [hz2]; exact growslice_fits (by omega) (by omega))
      rw [hr] at h2
      cases h2
      exact ⟨_, rfl, Nat.le_refl _⟩

theorem wp_aps {w : World} {ops : Array Oper} {rest : List Oper} {o : Oper} {a : Act} {Q : Exit → Act → World → Prop} (hgd : o.guard = none) (sl x : Operand)
    (ho : o.op = .call { callee := .builtin .append, args := #[sl, x], argTypes := #[26, 9] })
    (B n : Nat) (v : Value) (xs : List Value) (hs : a.eval sl = v) (hown : w.ownsRow B 5 1 v n xs) (s : ByteArray) (hx : a.eval x = .string s) (hlim : n + s.size ≤ 140737488355328) (hbase : B ≤ w.heap.size)
    (h : ∀ v' w', w'.ownsRow B 5 1 v' (n + s.size) (xs ++ Lib.strCells s) → Fr v v' w w' → wpList Tryd.prog ops Q rest (a.put o.dst v') w') : wpList Tryd.prog ops Q (o :: rest) a w :=
  wpList_plain hgd fun _ hK => by
    obtain ⟨v', w', hr, h2, h3⟩ := run_aps w o.type B n v xs hown s hlim hbase
    unfold Oper.wp execOp
    simp only [ho, resolve, invoke, builtin, Sem.run_bind, Sem.run_pure, Result.andThen_ok, List.map_toArray, List.map_cons, List.map_nil, hs, hx, hr]
    exact hK _ _ (h v' w' h2 h3)

/-! ### the shelf's contracts at this dump's numbers -/
theorem small_any (u : Nat) (h : u < 100) (w : World) : Calls Tryd.prog 64 #[.int .i64 u] w fun e w' => e = .returned (.string ⟨(Lib.decDigits u).toArray⟩) ∧ w' = w :=
  Any.internal_strconv_small { Tryd.laysM176 with } u h w
theorem numDigits_any (u : Nat) (h1 : 1 ≤ u) (h2 : u < 18446744073709551616) (w : World) (htab : Lib.TabIs Tryd.prog w pw .u64 Lib.pow10Tab) :
    Calls Tryd.prog 65 #[.int .u64 u] w fun e w' => e = .returned (.int .i64 (Lib.nDigits u)) ∧ w' = w :=
  Any.internal_strconv_numDigits { Tryd.laysM176 with } u h1 h2 w htab
theorem formatBase10_any (blk off cap : Nat) (u : Nat) (d : Array UInt8) (w : World) (hH : Holds (fun (b : UInt8) => Value.int .u8 (b.toNat : Int)) w blk off d) (hu : u < 10 ^ d.size) (hu64 : u < 18446744073709551616) (hsz : d.size < 4611686018427387904) :
    Calls Tryd.prog 66 #[.slice (some ⟨blk, off, none⟩) d.size cap, .int .u64 u] w fun e w' =>
      e = .returned (.tuple #[]) ∧ ∃ (n v' : Nat) (dk : Array UInt8), w' = (putRow (fun (b : UInt8) => Value.int .u8 (b.toNat : Int)) w blk off dk).drewN n ∧ Lib.FmtInv d.size u 0 v' dk :=
  Any.internal_strconv_formatBase10 { Tryd.laysM176 with } blk off cap u d w hH hu hu64 hsz

set_option maxHeartbeats 1000000 in
set_option maxRecDepth 100000 in
theorem uint_small (B n u : Nat) (hu : u < 100) (v : Value) (xs : List Value) (w : World) (hown : Hid (w.ownsRow B 5 1 v n xs)) (hB : B ≤ w.heap.size) (hlim : n + 20 ≤ 140737488355328) :
    Calls Tryd.prog 42 #[v, .int .u64 u, .int .i64 10] w fun e w' => ∃ v', e = .returned v' ∧ w'.ownsRow B 5 1 v' (n + (Lib.decDigits u).length) (xs ++ Lib.byteCells (Lib.decDigits u)) ∧ Fr v v' w w' := by
  have hlen : (Lib.decDigits u).length ≤ 20 := by
    rw [Lib.decDigits_length]
    by_cases h10 : u < 10
    · rw [Lib.nDigits_small h10]; omega
    · rw [Lib.nDigits_big h10, Lib.nDigits_small (show u / 10 < 10 by omega)]; omega
  have hsz : (⟨(Lib.decDigits u).toArray⟩ : ByteArray).size = (Lib.decDigits u).length := by simp [ByteArray.size]
  go_enter Tryd.func42, Tryd.ntmps42
  go_wp2_with (first
    | (go_at_call 64; refine (small_any u hu _).mono ?_; rintro e w' ⟨rfl, rfl⟩)
    | (at_builtin; refine wp_aps rfl _ _ rfl B n v xs rfl hown.out ⟨(Lib.decDigits u).toArray⟩ rfl (by rw [hsz]; omega) hB ?_; intro v' w' ho hfr))
  go_ret
  refine ⟨v', rfl, ?_, hfr⟩
  rw [hsz] at ho
  exact ho

theorem fmt24 (u : Nat) (hnd20 : Lib.nDigits u ≤ 20) (hu64 : u < 18446744073709551616) (w : World) :
    Calls Tryd.prog 66 #[.slice (some ⟨w.heap.size, 0, none⟩) (Lib.nDigits u) 24, .int .u64 u] (w.alloc (.cells Lib.zeros24 107)) fun e w' =>
      e = .returned (.tuple #[]) ∧ ∃ (n v' : Nat) (dk : Array UInt8), w' = (putRow (fun (b : UInt8) => Value.int .u8 (b.toNat : Int)) (w.alloc (.cells Lib.zeros24 107)) w.heap.size 0 dk).drewN n ∧ Lib.FmtInv (Lib.nDigits u) u 0 v' dk := by
  have hfmt := formatBase10_any w.heap.size 0 24 u (Array.replicate (Lib.nDigits u) 0) (w.alloc (.cells Lib.zeros24 107)) (Lib.holds_zero0 w 107 (Lib.nDigits u) (by omega)) (by rw [Array.size_replicate]; exact Lib.lt_pow_nDigits u) hu64 (by rw [Array.size_replicate]; omega)
  rw [Array.size_replicate] at hfmt
  exact hfmt

set_option maxHeartbeats 4000000 in
set_option maxRecDepth 100000 in
theorem uint_big (B n u : Nat) (hu : 100 ≤ u) (hu64 : u < 18446744073709551616) (v : Value) (xs : List Value) (w : World) (hown : Hid (w.ownsRow B 5 1 v n xs)) (hB : B ≤ w.heap.size) (hlim : n + 20 ≤ 140737488355328)
    (htab : Hid (Lib.TabIs Tryd.prog w pw .u64 Lib.pow10Tab)) :
    Calls Tryd.prog 42 #[v, .int .u64 u, .int .i64 10] w fun e w' => ∃ v', e = .returned v' ∧ w'.ownsRow B 5 1 v' (n + (Lib.decDigits u).length) (xs ++ Lib.byteCells (Lib.decDigits u)) ∧ Fr v v' w w' := by
  have hu1 : 1 ≤ u := by omega
  have hnd20 : Lib.nDigits u ≤ 20 := by have := Lib.numDigits_eq u hu1 hu64; split at this <;> omega
  have hal : Tryd.prog.arrayLen 107 = 24 := by simp [Program.arrayLen, Tryd.underlying107]
  have hsl : ∀ W, (Instr.sliceAt 107 (.pointer (some ⟨w.heap.size, 0, none⟩)) none (some (.int .i64 (Lib.nDigits u : Int))) none).run Tryd.prog W = .ok (.slice (some ⟨w.heap.size, 0, none⟩) (Lib.nDigits u) 24) W := fun W => by
    rw [run_sliceAt_array_h W 107 ⟨w.heap.size, 0, none⟩ (by simp [Program.arrayLen, Program.elem, Tryd.underlying107]) .i64 (Lib.nDigits u : Int) (by omega) (by rw [hal]; omega)]
    go_simp
  have iu : (100 : Int) ≤ (u : Int) := by omega
  clear hal
  go_enter Tryd.func42, Tryd.ntmps42
  go_wp2_with (go_at_call 65; refine (numDigits_any u hu1 hu64 _ (Lib.tabIs_alloc htab.out _)).mono ?_; rintro e w' ⟨rfl, rfl⟩)
  refine (fmt24 u hnd20 hu64 w).mono ?_
  rintro e w' ⟨rfl, k, v', dk, rfl, hF⟩
  have hcells : ∀ j u', (Lib.byteCells (Lib.decDigits u))[j]? = some u' → ((putRow (fun (b : UInt8) => Value.int .u8 (b.toNat : Int)) (w.alloc (.cells Lib.zeros24 107)) w.heap.size 0 dk).drewN k).cell? ((⟨w.heap.size, 0, none⟩ : Addr).add j) = some u' := by
    intro j u' hj
    have hjl : j < (Lib.decDigits u).length := by
      have h5 := (List.getElem?_eq_some_iff.1 hj).1
      rwa [Lib.byteCells_length] at h5
    have e5 : (Lib.byteCells (Lib.decDigits u))[j]? = some (Value.int .u8 ((Lib.decDigits u)[j].toNat : Int)) := by simp [Lib.byteCells, hjl]
    rw [e5] at hj
    cases hj
    rw [Lib.row_is_numeral hF j hjl, Lib.add_plain, World.cell?_drewN]
    exact cell?_putRow (fun (b : UInt8) => Value.int .u8 (b.toNat : Int)) _ w.heap.size 0 _ dk (Lib.holds_zero0 w 107 (Lib.nDigits u) (by omega)) (by rw [hF.size, Array.size_replicate]) j (by rw [hF.size]; rw [Lib.decDigits_length] at hjl; exact hjl)
  obtain ⟨os, eo⟩ := Lib.fin_at w (.cells Lib.zeros24 107) dk k 0
  have hown2 : ((putRow (fun (b : UInt8) => Value.int .u8 (b.toNat : Int)) (w.alloc (.cells Lib.zeros24 107)) w.heap.size 0 dk).drewN k).ownsRow B 5 1 v n xs := by rw [eo]; exact Lib.ownsRow_grow hown.out k os
  have hnx2 : Hid (w.grownBy ((putRow (fun (b : UInt8) => Value.int .u8 (b.toNat : Int)) (w.alloc (.cells Lib.zeros24 107)) w.heap.size 0 dk).drewN k) none) := by show w.grownBy _ none; rw [eo]; exact grown_of_below (Lib.below_grow w.heap.size w (Nat.le_refl _) k os) none
  have hsz2 : w.heap.size ≤ ((putRow (fun (b : UInt8) => Value.int .u8 (b.toNat : Int)) (w.alloc (.cells Lib.zeros24 107)) w.heap.size 0 dk).drewN k).heap.size := by rw [eo]; exact Lib.size_grow w k os
  generalize (putRow (fun (b : UInt8) => Value.int .u8 (b.toNat : Int)) (w.alloc (.cells Lib.zeros24 107)) w.heap.size 0 dk).drewN k = W2 at hcells hown2 hnx2 hsz2 ⊢
  have HC : Hid _ := hcells
  have HO : Hid _ := hown2
  clear eo hcells hown2
  go_wp2_with (at_builtin; refine wp_ap rfl _ _ rfl B n v xs rfl HO.out ⟨w.heap.size, 0, none⟩ (Lib.nDigits u) 24 (Lib.byteCells (Lib.decDigits u)) rfl ?_ HC.out (oneB _) ?_ ?_ ?_; rotate_right; intro v2 w3 ho hfr)
  · go_ret
    refine ⟨v2, rfl, ?_, hfr.pre hnx2.out⟩
    rw [Lib.decDigits_length]
    exact ho
  · rw [Lib.byteCells_length, Lib.decDigits_length]
  · omega
  · omega

theorem uint_any (B n u : Nat) (hu64 : u < 18446744073709551616) (v : Value) (xs : List Value) (w : World) (hown : w.ownsRow B 5 1 v n xs) (hB : B ≤ w.heap.size) (hlim : n + 20 ≤ 140737488355328)
    (htab : Lib.TabIs Tryd.prog w pw .u64 Lib.pow10Tab) :
    Calls Tryd.prog 42 #[v, .int .u64 u, .int .i64 10] w fun e w' => ∃ v', e = .returned v' ∧ w'.ownsRow B 5 1 v' (n + (Lib.decDigits u).length) (xs ++ Lib.byteCells (Lib.decDigits u)) ∧ Fr v v' w w' := by
  by_cases h : u < 100
  · exact uint_small B n u h v xs w hown hB hlim
  · exact uint_big B n u (by omega) hu64 v xs w hown hB hlim htab

set_option maxHeartbeats 1000000 in
set_option maxRecDepth 100000 in
theorem int_neg (B n u : Nat) (hu0 : 1 ≤ u) (hu : u ≤ 9223372036854775808) (v0 : Value) (xs : List Value) (w0 : World) (hown0 : Hid (w0.ownsRow B 5 1 v0 n xs)) (hB0 : B ≤ w0.heap.size) (hlim : n + 21 ≤ 140737488355328)
    (htab : Hid (Lib.TabBelow Tryd.prog B w0 pw .u64 Lib.pow10Tab)) :
    Calls Tryd.prog 33 #[v0, .int .i64 (-(u : Int)), .int .i64 10] w0 fun e w' => ∃ v', e = .returned v' ∧ w'.ownsRow B 5 1 v' (n + 1 + (Lib.decDigits u).length) (xs ++ [Value.int .u8 45] ++ Lib.byteCells (Lib.decDigits u)) ∧ Fr v0 v' w0 w' := by
  have hwr : IntKind.u64.wrap (-IntKind.u64.wrap (-(u : Int))) = (u : Int) := by rw [IntKind.wrap_u64, IntKind.wrap_u64]; omega
  go_enter Tryd.func33, Tryd.ntmps33
  go_wp2_with (at_builtin; refine wp_ap rfl _ _ rfl B n v0 xs rfl (hown0.out.alloc _) ⟨w0.heap.size, 0, none⟩ 1 1 [Value.int .u8 45] rfl rfl (one_new _ _ _) (one_cell _) (by omega) (by simp; omega) ?_; intro v w ho1 hfr1)
  have HF1 : Fr v0 v w0 w := hfr1.pre (World.grownBy_alloc w0 _ none)
  have hBel : Below B w0 w := (Below.refl B w0).grown HF1.grown hB0 (fun k hk => (hown0.out.lt k hk).1)
  have HF : Hid (Fr v0 v w0 w) := HF1
  have HO : Hid (w.ownsRow B 5 1 v (n + 1) (xs ++ [Value.int .u8 45])) := ho1
  have HT : Hid (Lib.TabIs Tryd.prog w pw .u64 Lib.pow10Tab) := htab.out w hBel
  have hBw : B ≤ w.heap.size := Nat.le_trans hB0 HF1.grown.size
  clear ho1 hfr1 HF1 hBel
  go_wp2_with fail
  refine (uint_any B (n + 1) u (by omega) v _ w HO.out hBw (by omega) HT.out).mono ?_
  rintro e w2 ⟨v2, rfl, ho2, hfr2⟩
  have HF2 : Hid (Fr v0 v2 w0 w2) := HF.out.trans hfr2
  have HO2 : Hid _ := ho2
  clear ho2 hfr2
  go_wp2_with fail
  go_ret
  exact ⟨v2, rfl, HO2.out, HF2.out⟩

set_option maxHeartbeats 1000000 in
set_option maxRecDepth 100000 in
theorem int_nonneg (B n u : Nat) (hu : u ≤ 9223372036854775807) (v : Value) (xs : List Value) (w : World) (hown : Hid (w.ownsRow B 5 1 v n xs)) (hB : B ≤ w.heap.size) (hlim : n + 21 ≤ 140737488355328)
    (htab : Hid (Lib.TabBelow Tryd.prog B w pw .u64 Lib.pow10Tab)) :
    Calls Tryd.prog 33 #[v, .int .i64 u, .int .i64 10] w fun e w' => ∃ v', e = .returned v' ∧ w'.ownsRow B 5 1 v' (n + (Lib.decDigits u).length) (xs ++ Lib.byteCells (Lib.decDigits u)) ∧ Fr v v' w w' := by
  go_enter Tryd.func33, Tryd.ntmps33
  go_wp2_with fail
  refine (uint_any B n u (by omega) v xs w hown.out hB (by omega) htab.out.here).mono ?_
  rintro e w2 ⟨v2, rfl, ho2, hfr2⟩
  have HF2 : Hid (Fr v v2 w w2) := hfr2
  have HO2 : Hid _ := ho2
  clear ho2 hfr2
  go_wp2_with fail
  go_ret
  exact ⟨v2, rfl, HO2.out, HF2.out⟩

theorem int_any (B n : Nat) (i : Int) (h0 : -9223372036854775808 ≤ i) (h1 : i ≤ 9223372036854775807) (v : Value) (xs : List Value) (w : World) (hown : w.ownsRow B 5 1 v n xs) (hB : B ≤ w.heap.size) (hlim : n + 21 ≤ 140737488355328)
    (htab : Lib.TabBelow Tryd.prog B w pw .u64 Lib.pow10Tab) :
    Calls Tryd.prog 33 #[v, .int .i64 i, .int .i64 10] w fun e w' => ∃ v', e = .returned v' ∧ w'.ownsRow B 5 1 v' (n + (Lib.itoa i).length) (xs ++ Lib.byteCells (Lib.itoa i)) ∧ Fr v v' w w' := by
  by_cases hneg : i < 0
  · obtain ⟨u, rfl⟩ : ∃ u : Nat, i = -(u : Int) := ⟨i.natAbs, by omega⟩
    rw [Lib.itoa_neg u (by omega)]
    refine (int_neg B n u (by omega) (by omega) v xs w hown hB hlim htab).mono ?_
    rintro e w' ⟨v', he, ho, hf⟩
    refine ⟨v', he, ?_, hf⟩
    rw [List.length_cons, show n + ((Lib.decDigits u).length + 1) = n + 1 + (Lib.decDigits u).length by omega]
    rw [List.append_assoc] at ho
    exact ho
  · obtain ⟨u, rfl⟩ : ∃ u : Nat, i = (u : Int) := ⟨i.toNat, by omega⟩
    rw [Lib.itoa_nonneg]
    exact int_nonneg B n u (by omega) v xs w hown hB hlim htab

set_option maxHeartbeats 1000000 in
/-- strconv.AppendInt at base 10. -/
theorem appendInt_any (B n : Nat) (i : Int) (h0 : -9223372036854775808 ≤ i) (h1 : i ≤ 9223372036854775807) (v : Value) (xs : List Value) (w : World) (hown : Hid (w.ownsRow B 5 1 v n xs)) (hB : B ≤ w.heap.size) (hlim : n + 21 ≤ 140737488355328)
    (htab : Hid (Lib.TabBelow Tryd.prog B w pw .u64 Lib.pow10Tab)) :
    Calls Tryd.prog 25 #[v, .int .i64 i, .int .i64 10] w fun e w' => ∃ v', e = .returned v' ∧ w'.ownsRow B 5 1 v' (n + (Lib.itoa i).length) (xs ++ Lib.byteCells (Lib.itoa i)) ∧ Fr v v' w w' := by
  go_enter Tryd.func25, Tryd.ntmps25
  go_wp2_with fail
  refine (int_any B n i h0 h1 v xs w hown.out hB hlim htab.out).mono ?_
  rintro e w2 ⟨v2, rfl, ho2, hfr2⟩
  have HF2 : Hid (Fr v v2 w w2) := hfr2
  have HO2 : Hid _ := ho2
  clear ho2 hfr2
  go_wp2_with fail
  go_ret
  exact ⟨v2, rfl, HO2.out, HF2.out⟩
end Go.Proofs.Qxb6609202aDoor.Wr
