/-
  zzBytes (5, 8), zzlClone (6), zzlMember (9).
-/
import Derived.Test.Qxb6612426aAt
import Derived.Lib.SliceRun
import Derived.Laws.MakeOwn
namespace Go.Proofs.Qxb6612426a.Tm
open Go.RowKit

theorem info2 : (Try.prog.info? 2).map (fun i => (i.zero, i.size, i.bytes)) = some (some (.int .i64 0), 1, 8) := by kernel_rfl

theorem make_run (n : Nat) (hn : n ≤ 1048576) (w : World) :
    (Instr.makeSlice 22 (.int .i64 n) (.int .i64 n)).run Try.prog w = .ok (.slice (some ⟨w.heap.size, 0, none⟩) n n) (w.alloc (.cells (madeCells #[.int .i64 0] n) 2)) := by
  obtain ⟨i0, hi, hz0, hz1, hz2⟩ := info_parts info2
  have h := run_make (P := Try.prog) w 22 2 i0 (.int .i64 0) Try.underlying22 hi hz0 .i64 .i64 n n (by omega) (by omega) (by rw [hz2]; omega) (by omega)
  simpa [hz1, Value.cells] using h

theorem made_cell (n j : Nat) (h : j < n) (w : World) : (w.alloc (.cells (madeCells #[.int .i64 0] n) 2)).cell? ⟨w.heap.size, j, none⟩ = some (.int .i64 0) := by
  simp [go_sem, madeCells, h, Nat.mod_one]
theorem made_frozen (n j : Nat) (w : World) : (w.alloc (.cells (madeCells #[.int .i64 0] n) 2)).frozen? ⟨w.heap.size, j, none⟩ = false := by
  simp [go_sem]

set_option maxHeartbeats 400000 in
theorem bytes5_any (A : Option Addr) (n cap : Nat) (a : Int) (w : World) (hn : n ≤ 1048576) :
    Calls Try.prog 5 #[.slice A n cap, .int .i64 a] w fun e w' => e = .returned (.bool true) ∧ w' = w := by
  go_enter Try.func5, Try.ntmps5
  go_wp2
  go_ret
  exact ⟨rfl, rfl⟩
set_option maxHeartbeats 400000 in
theorem bytes5_no (A : Option Addr) (n cap : Nat) (a : Int) (w : World) (hn : 1048576 < n) :
    Calls Try.prog 5 #[.slice A n cap, .int .i64 a] w fun e w' => e = .returned (.bool false) ∧ w' = w := by
  go_enter Try.func5, Try.ntmps5
  go_wp2
  go_ret
  exact ⟨rfl, rfl⟩
set_option maxHeartbeats 400000 in
theorem bytes8_any (A : Option Addr) (n cap : Nat) (a : Int) (w : World) (hn : n ≤ 1048576) :
    Calls Try.prog 8 #[.slice A n cap, .int .i64 a] w fun e w' => e = .returned (.bool true) ∧ w' = w := by
  go_enter Try.func8, Try.ntmps8
  go_wp2
  go_ret
  exact ⟨rfl, rfl⟩
set_option maxHeartbeats 400000 in
theorem bytes8_no (A : Option Addr) (n cap : Nat) (a : Int) (w : World) (hn : 1048576 < n) :
    Calls Try.prog 8 #[.slice A n cap, .int .i64 a] w fun e w' => e = .returned (.bool false) ∧ w' = w := by
  go_enter Try.func8, Try.ntmps8
  go_wp2
  go_ret
  exact ⟨rfl, rfl⟩

set_option maxHeartbeats 400000 in
theorem member_any (x : Int) (xs : List Int) (A : Option Addr) (bs os cap : Nat) (w : World) (hl : xs.length ≤ 1048576) (hr : Hid (Rd w xs A bs os)) (hm : Hid (x ∈ xs)) :
    Calls Try.prog 9 #[.slice A xs.length cap, .int .i64 x] w fun e w' => e = .returned (.bool true) ∧ w' = w := by
  go_enter Try.func9, Try.ntmps9
  go_wp2
  go_loop [5] (fun i => ∃ k : Nat, k ≤ xs.length ∧ i = .int .i64 k ∧ Hid (∀ j, j < k → xs.getD j 0 ≠ x)) (fun i => xs.length - (intOf i).toNat)
  case atStart => exact ⟨0, Nat.zero_le _, rfl, fun j hj => by omega⟩
  case round =>
    obtain ⟨k, hk, rfl, HN⟩ := hrel
    by_cases hlt : k < xs.length
    · obtain rfl := hr.out.hA (by omega)
      have he := hr.out.hcell k hlt
      have HN1 : Hid (xs.getD k 0 ≠ x → ∀ j, j < k + 1 → xs.getD j 0 ≠ x) := fun h j hj => by
        by_cases e : j = k
        · rw [e]; exact h
        · exact HN.out j (by omega)
      generalize xs.getD k 0 = X at *
      by_cases hX : (X == x) = true
      · go_wp2
        go_ret
        exact ⟨rfl, rfl⟩
      · have hX' : (X == x) = false := by simpa using hX
        clear hX
        go_wp2
        go_round
        case rel => exact ⟨k + 1, by omega, by go_num, HN1.out (by simpa using hX')⟩
        case measure => simp [intOf]; omega
    · exfalso
      obtain ⟨j, hj, rfl⟩ := List.getElem_of_mem hm.out
      exact HN.out j (by omega) (by simp [List.getD_eq_getElem?_getD, hj])

/-- the copy so far -/
structure Cl (w wr : World) (xs : List Int) (k : Nat) : Prop where
  hb : Below w.heap.size w wr
  hz : w.heap.size < wr.heap.size
  done : ∀ j, j < k → wr.cell? ⟨w.heap.size, j, none⟩ = some (.int .i64 (xs.getD j 0))
  room : ∀ j, j < xs.length → ∃ v, wr.cell? ⟨w.heap.size, j, none⟩ = some v
  free : ∀ j, wr.frozen? ⟨w.heap.size, j, none⟩ = false

theorem Cl.start (w : World) (xs : List Int) : Cl w (w.alloc (.cells (madeCells #[.int .i64 0] xs.length) 2)) xs 0 where
  hb := (Below.refl _ _).alloc (Nat.le_refl _) _
  hz := by simp
  done := fun j hj => by omega
  room := fun j hj => ⟨_, made_cell xs.length j hj w⟩
  free := fun j => made_frozen xs.length j w

theorem Cl.put {w wr : World} {xs : List Int} {k : Nat} (h : Cl w wr xs k) (hk : k < xs.length) : Cl w (wr.setCell ⟨w.heap.size, k, none⟩ (.int .i64 (xs.getD k 0))) xs (k + 1) where
  hb := h.hb.setCell (Nat.le_refl _) _
  hz := by simpa using h.hz
  done := fun j hj => by
    by_cases e : j = k
    · subst e
      obtain ⟨v, hv⟩ := h.room j hk
      rw [World.cell?_setCell_same' _ _ _ (by rw [hv]; rfl)]
    · rw [World.cell?_setCell_other _ _ _ _ (fun h => e (by cases h; rfl))]; exact h.done j (by omega)
  room := fun j hj => by
    obtain ⟨v, hv⟩ := h.room j hj
    exact cell?_setCell_some hv
  free := fun j => by rw [World.frozen?_setCell]; exact h.free j

set_option maxHeartbeats 400000 in
theorem clone_any (xs : List Int) (A : Option Addr) (bs os cap : Nat) (w : World) (hl : xs.length ≤ 1048576) (hr : Hid (Rd w xs A bs os)) :
    Calls Try.prog 6 #[.slice A xs.length cap] w fun e w' => ∃ A' bs' cap', e = .returned (.slice A' xs.length cap') ∧ Rd w' xs A' bs' 0 ∧ Below w.heap.size w w' := by
  have q22 : ∀ (w : World) (a : Option Addr) (n c n' c' : Nat), (binOp .eql 22 (.slice a n c) (.slice none n' c')).run Try.prog w = .ok (.bool a.isNone) w := fun w a n c n' c' => Lib.run_eql_slice_nil w _ _ a n c n' c' Try.underlying22
  cases A with
  | none =>
    have h0 : xs.length = 0 := by
      have := hr.out.hA
      rcases Nat.eq_zero_or_pos xs.length with h | h
      · exact h
      · exact absurd (this h) (by simp)
    go_enter Try.func6, Try.ntmps6
    go_wp2
    go_ret
    exact ⟨none, 0, 0, by rw [h0]; rfl, ⟨fun h => by omega, fun h => by omega, fun k hk => by omega⟩, Below.refl _ _⟩
  | some ad =>
    have hmk := fun w => make_run xs.length hl w
    go_enter Try.func6, Try.ntmps6
    go_wp2
    go_loopw [4] (fun i wr => ∃ k : Nat, k ≤ xs.length ∧ i = .int .i64 k ∧ Cl w wr xs k) (fun i _ => xs.length - (intOf i).toNat)
    case atStart => exact ⟨0, Nat.zero_le _, rfl, Cl.start w xs⟩
    case round =>
      obtain ⟨k, hk, rfl, C⟩ := hrel
      by_cases hlt : k < xs.length
      · obtain rfl : ad = ⟨bs, os, none⟩ := by have := hr.out.hA (by omega); simpa using this
        have hbs := hr.out.hbs (by omega)
        have he : wr.cell? ⟨bs, os + k, none⟩ = some (.int .i64 (xs.getD k 0)) := by rw [C.hb.cell (p := ⟨bs, os + k, none⟩) hbs]; exact hr.out.hcell k hlt
        have C1 := C.put hlt
        obtain ⟨v, hv⟩ := C.room k hlt
        have hfz := C.free k
        generalize xs.getD k 0 = X at *
        go_wp2
        go_roundw
        case rel => exact ⟨k + 1, by omega, by go_num, C1⟩
        case measure => simp [intOf]; omega
      · obtain rfl : k = xs.length := by omega
        go_wp2
        go_ret
        exact ⟨some ⟨w.heap.size, 0, none⟩, w.heap.size, xs.length, rfl, ⟨fun _ => rfl, fun _ => C.hz, fun k hk => by rw [Nat.zero_add]; exact C.done k hk⟩, C.hb⟩
end Go.Proofs.Qxb6612426a.Tm
