/-
  zzb1AppendInt (9): the law's own decimal numeral.
-/
import Derived.Test.Qxb6609202aDoorAp
import Derived.Lib.ItoaNum
import Derived.Lib.ItoaMem
namespace Go.Proofs.Qxb6609202aDoor.Wr
open Go.RowKit

/-- the last k digits -/
def lowd (u : Nat) : Nat → List UInt8
  | 0 => []
  | k + 1 => UInt8.ofNat (48 + u / 10 ^ k % 10) :: lowd u k

theorem lowd_length (u k : Nat) : (lowd u k).length = k := by induction k <;> simp [lowd, *]
theorem lowd_snoc (u k : Nat) : lowd u (k + 1) = lowd (u / 10) k ++ [UInt8.ofNat (48 + u % 10)] := by
  induction k with
  | zero => simp [lowd]
  | succ k ih =>
    rw [lowd, ih, lowd, List.cons_append]
    congr 3
    rw [Nat.pow_succ, Nat.mul_comm, ← Nat.div_div_eq_div_mul]
theorem dec_low (k : Nat) : ∀ u, u / 10 ^ (k + 1) = 0 → (k = 0 ∨ u / 10 ^ k ≠ 0) → Lib.decDigits u = lowd u (k + 1) := by
  induction k with
  | zero =>
    intro u h _
    have h' : u < 10 := by simpa using h
    rw [Lib.decDigits_one h', lowd, lowd]
    simp [Nat.mod_eq_of_lt h']
  | succ k ih =>
    intro u h h2
    have hne : u / 10 ^ (k + 1) ≠ 0 := by rcases h2 with h2 | h2; omega; exact h2
    have hbig : ¬ u < 10 := fun hlt => hne (Nat.div_eq_of_lt (Nat.lt_of_lt_of_le hlt (by rw [Nat.pow_succ]; have := Nat.pow_pos (n := k) (show 0 < 10 by omega); omega)))
    have e1 : ∀ j, u / 10 / 10 ^ j = u / 10 ^ (j + 1) := fun j => by rw [Nat.div_div_eq_div_mul, Nat.pow_succ, Nat.mul_comm]
    rw [Lib.decDigits, dif_neg hbig, lowd_snoc, ih (u / 10) (by rw [e1]; exact h) (by
      by_cases hk : k = 0
      · exact .inl hk
      · right; rw [e1]; exact hne)]

/-- the digits' array so far: the last k cells are the last k digits -/
structure Dig (w1 wr : World) (u k : Nat) : Prop where
  hb : Below w1.heap.size w1 wr
  hz : w1.heap.size < wr.heap.size
  done : ∀ j, j < k → wr.cell? ⟨w1.heap.size, 20 - k + j, none⟩ = some (.int .u8 (((lowd u k).getD j 0).toNat : Int))
  room : ∀ j, j < 20 → ∃ v, wr.cell? ⟨w1.heap.size, j, none⟩ = some v
  free : ∀ j, wr.frozen? ⟨w1.heap.size, j, none⟩ = false

theorem z20 : (#[Value.int IntKind.u8 0, Value.int IntKind.u8 0, Value.int IntKind.u8 0, Value.int IntKind.u8 0, Value.int IntKind.u8 0, Value.int IntKind.u8 0, Value.int IntKind.u8 0, Value.int IntKind.u8 0, Value.int IntKind.u8 0, Value.int IntKind.u8 0, Value.int IntKind.u8 0, Value.int IntKind.u8 0, Value.int IntKind.u8 0, Value.int IntKind.u8 0, Value.int IntKind.u8 0, Value.int IntKind.u8 0, Value.int IntKind.u8 0, Value.int IntKind.u8 0, Value.int IntKind.u8 0, Value.int IntKind.u8 0] : Array Value) = Array.replicate 20 (Value.int .u8 0) := rfl
theorem Dig.start (w1 : World) (u : Nat) (t : TypeId) : Dig w1 (w1.alloc (.cells #[Value.int IntKind.u8 0, Value.int IntKind.u8 0, Value.int IntKind.u8 0, Value.int IntKind.u8 0, Value.int IntKind.u8 0, Value.int IntKind.u8 0, Value.int IntKind.u8 0, Value.int IntKind.u8 0, Value.int IntKind.u8 0, Value.int IntKind.u8 0, Value.int IntKind.u8 0, Value.int IntKind.u8 0, Value.int IntKind.u8 0, Value.int IntKind.u8 0, Value.int IntKind.u8 0, Value.int IntKind.u8 0, Value.int IntKind.u8 0, Value.int IntKind.u8 0, Value.int IntKind.u8 0, Value.int IntKind.u8 0] t)) u 0 := {
  hb := (Below.refl _ _).alloc (Nat.le_refl _) _
  hz := by simp
  done := fun j hj => by omega
  room := fun j hj => ⟨.int .u8 0, by rw [World.cell?_alloc_new, z20]; simp [hj]⟩
  free := fun j => by simp [go_sem] }

theorem Dig.put {w1 wr : World} {u k J U : Nat} (h : Dig w1 wr u k) (hk : k + J = 19) (hU : u / 10 ^ k = U) : Dig w1 (wr.setCell ⟨w1.heap.size, J, none⟩ (.int .u8 (48 + (U : Int) % 10))) u (k + 1) := {
  hb := h.hb.setCell (Nat.le_refl _) _
  hz := by simpa using h.hz
  done := fun j hj => by
    cases j with
    | zero =>
      obtain ⟨v, hv⟩ := h.room J (by omega)
      rw [show 20 - (k + 1) + 0 = J by omega, World.cell?_setCell_same' _ _ _ (by rw [hv]; rfl)]
      have e : ((lowd u (k + 1)).getD 0 0).toNat = 48 + U % 10 := by simp [lowd, UInt8.toNat_ofNat', hU]; omega
      rw [e]
      congr 2
    | succ j =>
      rw [World.cell?_setCell_other _ _ _ _ (fun e => by injection e with _ e2; omega), show 20 - (k + 1) + (j + 1) = 20 - k + j by omega, h.done j (by omega)]
      simp [lowd]
  room := fun j hj => by
    obtain ⟨v, hv⟩ := h.room j hj
    exact cell?_setCell_some hv
  free := fun j => by rw [World.frozen?_setCell]; exact h.free j }

theorem pow20 (u : Nat) (hu : u < 18446744073709551616) {k : Nat} (h : u / 10 ^ k ≠ 0) : k < 20 := by
  rcases Nat.lt_or_ge k 20 with h1 | h1
  · exact h1
  · exact absurd (Nat.div_eq_of_lt (Nat.lt_of_lt_of_le hu (Nat.le_trans (by decide : 18446744073709551616 ≤ 10 ^ 20) (Nat.pow_le_pow_right (by omega) h1)))) h

/-- the array's tail, as what is appended -/
theorem Dig.news {w1 wr : World} {u k J : Nat} (h : Dig w1 wr u k) (hk : k + J = 20) : ∀ j x, (Lib.byteCells (lowd u k))[j]? = some x → wr.cell? ((⟨w1.heap.size, J, none⟩ : Addr).add j) = some x := by
  intro j x hj
  have hjl : j < k := by
    have h5 := (List.getElem?_eq_some_iff.1 hj).1
    rwa [Lib.byteCells_length, lowd_length] at h5
  have e5 : (Lib.byteCells (lowd u k))[j]? = some (Value.int .u8 ((lowd u k)[j]'(by rw [lowd_length]; exact hjl)).toNat) := by simp [Lib.byteCells, lowd_length, hjl]
  rw [e5] at hj
  cases hj
  have := h.done j hjl
  rw [show 20 - k + j = J + j by omega, List.getD_eq_getElem?_getD, List.getElem?_eq_getElem (by rw [lowd_length]; exact hjl)] at this
  rw [Lib.add_plain]
  exact this

theorem oneB (l : List UInt8) : ∀ x ∈ Lib.byteCells l, x.oneCell' = true := by
  intro x hx; simp only [Lib.byteCells, List.mem_map] at hx; obtain ⟨b, _, rfl⟩ := hx; rfl

theorem slice51 (g J : Nat) (hJ : J < 20) (W : World) : (Instr.sliceAt 51 (.pointer (some ⟨g, 0, none⟩)) (some (.int .i64 (J : Int))) none none).run Tryd.prog W = .ok (.slice (some ⟨g, J, none⟩) (20 - J) (20 - J)) W := by
  have hal : Tryd.prog.arrayLen 51 = 20 := by simp [Program.arrayLen, Tryd.underlying51]
  rw [run_sliceAt_array_l W 51 ⟨g, 0, none⟩ (by simp [Program.arrayLen, Program.elem, Tryd.underlying51]) .i64 (J : Int) (by omega) (by rw [hal]; omega), hal]
  go_simp
  omega

set_option maxHeartbeats 1000000 in
set_option maxRecDepth 100000 in
theorem zzint_nonneg (B n u : Nat) (hu : u ≤ 9223372036854775807) (v : Value) (xs : List Value) (w : World) (hown : Hid (w.ownsRow B 5 1 v n xs)) (hB : B ≤ w.heap.size) (hlim : n + 21 ≤ 140737488355328) :
    Calls Tryd.prog 9 #[v, .int .i64 u] w fun e w' => ∃ v', e = .returned v' ∧ w'.ownsRow B 5 1 v' (n + (Lib.decDigits u).length) (xs ++ Lib.byteCells (Lib.decDigits u)) ∧ Fr v v' w w' := by
  go_enter Tryd.func9, Tryd.ntmps9
  go_wp2_with fail
  go_loopw [5, 7] (fun x i wr => ∃ k J : Nat, k + J = 20 ∧ k ≤ 19 ∧ x = .int .u64 (u / 10 ^ k : Nat) ∧ i = .int .i64 J ∧ Hid (k = 0 ∨ u / 10 ^ k ≠ 0) ∧ Hid (Dig w wr u k)) (fun _ i _ => (intOf i).toNat)
  case atStart => exact ⟨0, 20, rfl, by omega, by simp, rfl, .inl rfl, Dig.start w u 51⟩
  case round =>
    obtain ⟨k, J1, hkJ, hk19, rfl, rfl, HK, HD⟩ := hrel
    obtain ⟨J, rfl⟩ : ∃ J, J1 = J + 1 := ⟨J1 - 1, by omega⟩
    have HP := fun U hU => HD.out.put (J := J) (U := U) (by omega) hU
    have hU1 : u / 10 ^ k ≤ u := Nat.div_le_self _ _
    have HN : Hid (u / 10 ^ (k + 1) = u / 10 ^ k / 10) := by show _ = _; rw [Nat.pow_succ, Nat.div_div_eq_div_mul]
    obtain ⟨vo, hvo⟩ := HD.out.room J (by omega)
    have hfz := HD.out.free J
    generalize hU : u / 10 ^ k = U at *
    have HP2 : Hid (Dig w (wr.setCell ⟨w.heap.size, J, none⟩ (.int .u8 (48 + (U : Int) % 10))) u (k + 1)) := HP U rfl
    have HUU : Hid (u / 10 ^ k = U) := hU
    clear HP hU
    by_cases hz : U / 10 = 0
    · have hz' : ((U : Int) / 10 == 0) = true := by simp; omega
      have HE : Hid (Lib.decDigits u = lowd u (k + 1)) := dec_low k u (by rw [HN.out]; exact hz) (by rw [HUU.out]; exact HK.out)
      clear hz
      have hsl := slice51 w.heap.size J (by omega)
      have HO : Hid ((wr.setCell ⟨w.heap.size, J, none⟩ (.int .u8 (48 + (U : Int) % 10))).ownsRow B 5 1 v n xs) := hown.out.kept (grown_of_below HP2.out.hb none) (by cases v.ownBlock <;> simp)
      have hB2 : B ≤ (wr.setCell ⟨w.heap.size, J, none⟩ (.int .u8 (48 + (U : Int) % 10))).heap.size := Nat.le_trans hB HP2.out.hb.size
      go_wp2_with (at_builtin; refine wp_ap rfl (.tmp 32) (.tmp 34) rfl B n v xs rfl HO.out ⟨w.heap.size, J, none⟩ (20 - J) (20 - J) (Lib.byteCells (lowd u (k + 1))) rfl ?_ (HP2.out.news (by omega)) (oneB _) ?_ hB2 ?_; rotate_right; intro v' w' ho hfr)
      · have hl : 20 - J = (lowd u (k + 1)).length := by rw [lowd_length]; omega
        rw [hl] at ho
        go_ret
        refine ⟨v', rfl, ?_, hfr.pre (grown_of_below HP2.out.hb none)⟩
        rw [HE.out]
        exact ho
      · rw [Lib.byteCells_length, lowd_length]; omega
      · omega
    · have hz' : ((U : Int) / 10 == 0) = false := by simp; omega
      have hk18 : k + 1 ≤ 19 := by have := pow20 u (by omega) (k := k + 1) (by rw [HN.out]; exact hz); omega
      have HK1 : Hid (k + 1 = 0 ∨ u / 10 ^ (k + 1) ≠ 0) := .inr (by rw [HN.out]; exact hz)
      clear hz
      go_wp2_with fail
      go_roundw
      case rel => exact ⟨k + 1, J, by omega, hk18, by rw [HN.out]; go_num, rfl, HK1, HP2⟩
      case measure => simp [intOf]

set_option maxHeartbeats 1000000 in
set_option maxRecDepth 100000 in
theorem zzint_neg (B n u : Nat) (hu0 : 1 ≤ u) (hu : u ≤ 9223372036854775808) (v0 : Value) (xs : List Value) (w0 : World) (hown0 : Hid (w0.ownsRow B 5 1 v0 n xs)) (hB0 : B ≤ w0.heap.size) (hlim : n + 21 ≤ 140737488355328) :
    Calls Tryd.prog 9 #[v0, .int .i64 (-(u : Int))] w0 fun e w' => ∃ v', e = .returned v' ∧ w'.ownsRow B 5 1 v' (n + 1 + (Lib.decDigits u).length) (xs ++ [Value.int .u8 45] ++ Lib.byteCells (Lib.decDigits u)) ∧ Fr v0 v' w0 w' := by
  go_enter Tryd.func9, Tryd.ntmps9
  go_wp2_with (at_builtin; refine wp_ap rfl (.tmp 10) (.tmp 11) rfl B n v0 xs rfl (hown0.out.alloc _) ⟨w0.heap.size, 0, none⟩ 1 1 [Value.int .u8 45] rfl rfl (one_new _ _ _) (one_cell _) (by omega) (by simp; omega) ?_; intro v w ho1 hfr1)
  have HO1 : Hid (w.ownsRow B 5 1 v (n + 1) (xs ++ [Value.int .u8 45])) := ho1
  have HF1 : Hid (Fr v0 v w0 w) := hfr1.pre (World.grownBy_alloc w0 _ none)
  have hB : B ≤ w.heap.size := Nat.le_trans hB0 HF1.out.grown.size
  clear ho1 hfr1
  rw [show (-(-(u : Int) + 1) + 1) = (u : Int) by omega]
  go_loopw [5, 7] (fun x i wr => ∃ k J : Nat, k + J = 20 ∧ k ≤ 19 ∧ x = .int .u64 (u / 10 ^ k : Nat) ∧ i = .int .i64 J ∧ Hid (k = 0 ∨ u / 10 ^ k ≠ 0) ∧ Hid (Dig w wr u k)) (fun _ i _ => (intOf i).toNat)
  case atStart => exact ⟨0, 20, rfl, by omega, by go_num, rfl, .inl rfl, Dig.start w u 51⟩
  case round =>
    obtain ⟨k, J1, hkJ, hk19, rfl, rfl, HK, HD⟩ := hrel
    obtain ⟨J, rfl⟩ : ∃ J, J1 = J + 1 := ⟨J1 - 1, by omega⟩
    have HP := fun U hU => HD.out.put (J := J) (U := U) (by omega) hU
    have hU1 : u / 10 ^ k ≤ u := Nat.div_le_self _ _
    have HN : Hid (u / 10 ^ (k + 1) = u / 10 ^ k / 10) := by show _ = _; rw [Nat.pow_succ, Nat.div_div_eq_div_mul]
    obtain ⟨vo, hvo⟩ := HD.out.room J (by omega)
    have hfz := HD.out.free J
    generalize hU : u / 10 ^ k = U at *
    have HP2 : Hid (Dig w (wr.setCell ⟨w.heap.size, J, none⟩ (.int .u8 (48 + (U : Int) % 10))) u (k + 1)) := HP U rfl
    have HUU : Hid (u / 10 ^ k = U) := hU
    clear HP hU
    by_cases hz : U / 10 = 0
    · have hz' : ((U : Int) / 10 == 0) = true := by simp; omega
      have HE : Hid (Lib.decDigits u = lowd u (k + 1)) := dec_low k u (by rw [HN.out]; exact hz) (by rw [HUU.out]; exact HK.out)
      clear hz
      have hsl := slice51 w.heap.size J (by omega)
      have HO : Hid ((wr.setCell ⟨w.heap.size, J, none⟩ (.int .u8 (48 + (U : Int) % 10))).ownsRow B 5 1 v (n + 1) (xs ++ [Value.int .u8 45])) := HO1.out.kept (grown_of_below HP2.out.hb none) (by cases v.ownBlock <;> simp)
      have hB2 : B ≤ (wr.setCell ⟨w.heap.size, J, none⟩ (.int .u8 (48 + (U : Int) % 10))).heap.size := Nat.le_trans hB HP2.out.hb.size
      go_wp2_with (at_builtin; refine wp_ap rfl (.tmp 32) (.tmp 34) rfl B (n + 1) v (xs ++ [Value.int .u8 45]) rfl HO.out ⟨w.heap.size, J, none⟩ (20 - J) (20 - J) (Lib.byteCells (lowd u (k + 1))) rfl ?_ (HP2.out.news (by omega)) (oneB _) ?_ hB2 ?_; rotate_right; intro v' w' ho hfr)
      · have hl : 20 - J = (lowd u (k + 1)).length := by rw [lowd_length]; omega
        rw [hl] at ho
        go_ret
        refine ⟨v', rfl, ?_, HF1.out.trans (hfr.pre (grown_of_below HP2.out.hb none))⟩
        rw [HE.out]
        exact ho
      · rw [Lib.byteCells_length, lowd_length]; omega
      · omega
    · have hz' : ((U : Int) / 10 == 0) = false := by simp; omega
      have hk18 : k + 1 ≤ 19 := by have := pow20 u (by omega) (k := k + 1) (by rw [HN.out]; exact hz); omega
      have HK1 : Hid (k + 1 = 0 ∨ u / 10 ^ (k + 1) ≠ 0) := .inr (by rw [HN.out]; exact hz)
      clear hz
      go_wp2_with fail
      go_roundw
      case rel => exact ⟨k + 1, J, by omega, hk18, by rw [HN.out]; go_num, rfl, HK1, HP2⟩
      case measure => simp [intOf]

/-- zzb1AppendInt appends the decimal numeral. -/
theorem zzint_any (B n : Nat) (i : Int) (h0 : -9223372036854775808 ≤ i) (h1 : i ≤ 9223372036854775807) (v : Value) (xs : List Value) (w : World) (hown : w.ownsRow B 5 1 v n xs) (hB : B ≤ w.heap.size) (hlim : n + 21 ≤ 140737488355328) :
    Calls Tryd.prog 9 #[v, .int .i64 i] w fun e w' => ∃ v', e = .returned v' ∧ w'.ownsRow B 5 1 v' (n + (Lib.itoa i).length) (xs ++ Lib.byteCells (Lib.itoa i)) ∧ Fr v v' w w' := by
  by_cases hneg : i < 0
  · obtain ⟨u, rfl⟩ : ∃ u : Nat, i = -(u : Int) := ⟨i.natAbs, by omega⟩
    rw [Lib.itoa_neg u (by omega)]
    refine (zzint_neg B n u (by omega) (by omega) v xs w hown hB hlim).mono ?_
    rintro e w' ⟨v', he, ho, hf⟩
    refine ⟨v', he, ?_, hf⟩
    rw [List.length_cons, show n + ((Lib.decDigits u).length + 1) = n + 1 + (Lib.decDigits u).length by omega]
    rw [List.append_assoc] at ho
    exact ho
  · obtain ⟨u, rfl⟩ : ∃ u : Nat, i = (u : Int) := ⟨i.toNat, by omega⟩
    rw [Lib.itoa_nonneg]
    exact zzint_nonneg B n u (by omega) v xs w hown hB hlim
end Go.Proofs.Qxb6609202aDoor.Wr
