/-
  zzNextOf$1 (15): its walk.
-/
import Derived.Test.Qxb6612426aNext
namespace Go.Proofs.Qxb6612426a.Tm
open Go.RowKit

theorem Ctx.put {w wr : World} {n s m : Int} (h : Ctx w wr n s m) (x : Int) :
    Ctx w (((wr.setCell ⟨w.heap.size + 1 + 1, 0, none⟩ (.int .u64 (x % 1000000000))).setCell ⟨w.heap.size + 1 + 1, 1, none⟩ (.int .i64 (x / 1000000000))).setCell ⟨w.heap.size + 1 + 1, 2, none⟩ (.pointer none)) n s x where
  hb := ((h.hb.setCell (Nat.le_refl _) _).setCell (Nat.le_refl _) _).setCell (Nat.le_refl _) _
  hz := by simpa using h.hz
  hat := by
    obtain ⟨c0, c1, c2, f0, f1, f2⟩ := h.best
    constructor <;> simp [go_sem, c0, c1, c2, f0, f1, f2]

theorem stp_none {a X : Int} (h : a < X) : stp a none X = some X := by simp [stp, h]
theorem stp_lt {a X m : Int} (h : a < X) (k : X < m) : stp a (some m) X = some X := by simp [stp, h, k]
theorem stp_ge {a X m : Int} (k : ¬ X < m) : stp a (some m) X = some m := by simp [stp, k]
theorem stp_no {a X : Int} {o : Option Int} (h : ¬ a < X) : stp a o X = o := by cases o <;> simp [stp, h]
theorem kept3 {w1 w2 : World} {n s : Int} (hb : Below (w1.alloc (Obj.cells #[Value.int IntKind.u64 n, Value.int IntKind.i64 s, Value.pointer none] 30)).heap.size (w1.alloc (Obj.cells #[Value.int IntKind.u64 n, Value.int IntKind.i64 s, Value.pointer none] 30)) w2) :
    w2.cell? ⟨w1.heap.size, 0, none⟩ = some (.int .u64 n) ∧ w2.cell? ⟨w1.heap.size, 1, none⟩ = some (.int .i64 s) ∧ w2.cell? ⟨w1.heap.size, 2, none⟩ = some (.pointer none) := by
  refine ⟨?_, ?_, ?_⟩
  · rw [hb.cell (p := ⟨w1.heap.size, 0, none⟩) (by simp)]; simp [go_sem]
  · rw [hb.cell (p := ⟨w1.heap.size, 1, none⟩) (by simp)]; simp [go_sem]
  · rw [hb.cell (p := ⟨w1.heap.size, 2, none⟩) (by simp)]; simp [go_sem]
theorem kept4 {w1 w2 w3 : World} {n s : Int} (hb : Below (w1.alloc (Obj.cells #[Value.int IntKind.u64 n, Value.int IntKind.i64 s, Value.pointer none] 30)).heap.size (w1.alloc (Obj.cells #[Value.int IntKind.u64 n, Value.int IntKind.i64 s, Value.pointer none] 30)) w2) (hb3 : Below w2.heap.size w2 w3) :
    w3.cell? ⟨w1.heap.size, 0, none⟩ = some (.int .u64 n) ∧ w3.cell? ⟨w1.heap.size, 1, none⟩ = some (.int .i64 s) ∧ w3.cell? ⟨w1.heap.size, 2, none⟩ = some (.pointer none) :=
  kept3 (hb.trans (hb3.mono hb.size))

set_option maxHeartbeats 1000000 in
theorem next_any (a n s : Int) (ha : Hid (s * 1000000000 + n = a)) (n0 : 0 ≤ n) (n1 : n < 1000000000) (xs : List Int) (A : Option Addr) (bx bs os len cap : Nat) (w : World) (hA : Hid (0 < len → A = some ⟨bs, os, none⟩))
    (hl : len ≤ 1048576) (hlen : len ≤ xs.length)
    (hx : w.cell? ⟨bx, 0, none⟩ = some (.slice A len cap)) (hbx : bx < w.heap.size) (hbs : Hid (0 < len → bs < w.heap.size))
    (hcell : ∀ k, k < len → w.cell? ⟨bs, os + k, none⟩ = some (.int .i64 (xs.getD k 0))) (hwf : ∀ k, -9223372036854775808 ≤ xs.getD k 0 ∧ xs.getD k 0 ≤ 9223372036854775807) :
    Calls Try.prog 15 #[.agg #[.int .u64 n, .int .i64 s, .pointer none], .pointer (some ⟨bx, 0, none⟩)] w fun e w' => e = .returned (.tuple #[tm ((best a (xs.take len)).getD 0), .bool (best a (xs.take len)).isSome]) ∧ Below w.heap.size w w' := by
  have HC : Hid (∀ k, k < len → w.cell? ⟨bs, os + k, none⟩ = some (.int .i64 (xs.getD k 0))) := hcell
  have HW : Hid (∀ k, -9223372036854775808 ≤ xs.getD k 0 ∧ xs.getD k 0 ≤ 9223372036854775807) := hwf
  clear hcell hwf
  go_enter Try.func15, Try.ntmps15
  go_wp2_with fail
  go_loopw [5, 7] (fun f i wr => ∃ k : Nat, k ≤ len ∧ i = .int .i64 k ∧ f = .bool (best a (xs.take k)).isSome ∧ Ctx w wr n s ((best a (xs.take k)).getD 0)) (fun _ i _ => len - (intOf i).toNat)
  case atStart => exact ⟨0, Nat.zero_le _, rfl, rfl, Ctx.start w n s⟩
  case round =>
    obtain ⟨k, hk, rfl, rfl, C⟩ := hrel
    have hx' : wr.cell? ⟨bx, 0, none⟩ = some (.slice A len cap) := by rw [C.old.cell (p := ⟨bx, 0, none⟩) hbx]; exact hx
    by_cases hlt : k < len
    · obtain rfl := hA.out (by omega)
      have hbs' := hbs.out (by omega)
      have he : wr.cell? ⟨bs, os + k, none⟩ = some (.int .i64 (xs.getD k 0)) := by rw [C.old.cell (p := ⟨bs, os + k, none⟩) hbs']; exact HC.out k hlt
      have HS : Hid (best a (xs.take (k + 1)) = stp a (best a (xs.take k)) (xs.getD k 0)) := best_snoc a xs k (by omega)
      have hX := HW.out k
      generalize xs.getD k 0 = X at *
      generalize hbest : best a (xs.take k) = o at *
      clear hbest
      obtain ⟨dX, n0X, n1X⟩ := dm X
      have DX : Hid (X / 1000000000 * 1000000000 + X % 1000000000 = X) := dX
      clear dX
      by_cases hgt : a < X
      · cases o with
        | none =>
          go_wp2_with fail
          refine (zzAt_at X _ _ DX.out n0X n1X hX.1 hX.2 _).mono ?_
          rintro e w1 ⟨rfl, hb1⟩
          have C1 := C.step hb1
          have hz1 := C1.hz
          have hz1' : w.heap.size < w1.heap.size := by omega
          obtain ⟨q1, q2, q3⟩ := C1.box
          go_wp2_with fail
          refine (after_at X a _ _ _ _ DX.out ha.out n0X n1X n0 n1 _).mono ?_
          rintro e w2 ⟨rfl, hb2⟩
          have C2 := (C1.step ((Below.refl _ _).alloc (Nat.le_refl _) _)).step hb2
          have hz2 := C2.hz
          obtain ⟨t1, t2, t3⟩ := kept3 hb2
          clear q1 q2 q3
          obtain ⟨p1, p2, p3, p4, p5, p6⟩ := C2.best
          go_wp2_with fail
          go_roundw
          case rel => exact ⟨k + 1, by omega, by go_num, by rw [HS.out, stp_none hgt]; try rfl, by rw [HS.out, stp_none hgt]; exact C2.put X⟩
          case measure => simp [intOf]; omega
        | some m =>
          obtain ⟨dm, n0m, n1m⟩ := dm m
          have DM : Hid (m / 1000000000 * 1000000000 + m % 1000000000 = m) := dm
          clear dm
          by_cases hle : X < m
          · go_wp2_with fail
            refine (zzAt_at X _ _ DX.out n0X n1X hX.1 hX.2 _).mono ?_
            rintro e w1 ⟨rfl, hb1⟩
            have C1 := C.step hb1
            have hz1 := C1.hz
            have hz1' : w.heap.size < w1.heap.size := by omega
            obtain ⟨q1, q2, q3⟩ := C1.box
            go_wp2_with fail
            refine (after_at X a _ _ _ _ DX.out ha.out n0X n1X n0 n1 _).mono ?_
            rintro e w2 ⟨rfl, hb2⟩
            have C2 := (C1.step ((Below.refl _ _).alloc (Nat.le_refl _) _)).step hb2
            have hz2 := C2.hz
            obtain ⟨t1, t2, t3⟩ := kept3 hb2
            clear q1 q2 q3
            obtain ⟨p1, p2, p3, p4, p5, p6⟩ := C2.best
            simp only [Option.getD_some] at p1 p2
            go_wp2_with fail
            refine (before_at X m _ _ _ _ DX.out DM.out n0X n1X n0m n1m _).mono ?_
            rintro e w3 ⟨rfl, hb3⟩
            have C3 := C2.step hb3
            have hz3 := C3.hz
            obtain ⟨t4, t5, t6⟩ := kept4 hb2 hb3
            clear p1 p2 p3 p4 p5 p6 t1 t2 t3
            obtain ⟨p1, p2, p3, p4, p5, p6⟩ := C3.best
            go_wp2_with fail
            go_roundw
            case rel => exact ⟨k + 1, by omega, by go_num, by rw [HS.out, stp_lt hgt hle]; try rfl, by rw [HS.out, stp_lt hgt hle]; exact C3.put X⟩
            case measure => simp [intOf]; omega
          · go_wp2_with fail
            refine (zzAt_at X _ _ DX.out n0X n1X hX.1 hX.2 _).mono ?_
            rintro e w1 ⟨rfl, hb1⟩
            have C1 := C.step hb1
            have hz1 := C1.hz
            have hz1' : w.heap.size < w1.heap.size := by omega
            obtain ⟨q1, q2, q3⟩ := C1.box
            go_wp2_with fail
            refine (after_at X a _ _ _ _ DX.out ha.out n0X n1X n0 n1 _).mono ?_
            rintro e w2 ⟨rfl, hb2⟩
            have C2 := (C1.step ((Below.refl _ _).alloc (Nat.le_refl _) _)).step hb2
            have hz2 := C2.hz
            obtain ⟨t1, t2, t3⟩ := kept3 hb2
            clear q1 q2 q3
            obtain ⟨p1, p2, p3, p4, p5, p6⟩ := C2.best
            simp only [Option.getD_some] at p1 p2
            go_wp2_with fail
            refine (before_at X m _ _ _ _ DX.out DM.out n0X n1X n0m n1m _).mono ?_
            rintro e w3 ⟨rfl, hb3⟩
            have C3 := C2.step hb3
            have hz3 := C3.hz
            obtain ⟨t4, t5, t6⟩ := kept4 hb2 hb3
            clear p1 p2 p3 p4 p5 p6 t1 t2 t3
            obtain ⟨p1, p2, p3, p4, p5, p6⟩ := C3.best
            go_wp2_with fail
            go_roundw
            case rel => exact ⟨k + 1, by omega, by go_num, by rw [HS.out, stp_ge (by omega)]; try rfl, by rw [HS.out, stp_ge (by omega)]; exact C3⟩
            case measure => simp [intOf]; omega
      · go_wp2_with fail
        refine (zzAt_at X _ _ DX.out n0X n1X hX.1 hX.2 _).mono ?_
        rintro e w1 ⟨rfl, hb1⟩
        have C1 := C.step hb1
        have hz1 := C1.hz
        have hz1' : w.heap.size < w1.heap.size := by omega
        obtain ⟨q1, q2, q3⟩ := C1.box
        go_wp2_with fail
        refine (after_at X a _ _ _ _ DX.out ha.out n0X n1X n0 n1 _).mono ?_
        rintro e w2 ⟨rfl, hb2⟩
        have C2 := (C1.step ((Below.refl _ _).alloc (Nat.le_refl _) _)).step hb2
        have hz2 := C2.hz
        obtain ⟨t1, t2, t3⟩ := kept3 hb2
        clear q1 q2 q3
        go_wp2_with fail
        go_roundw
        case rel => exact ⟨k + 1, by omega, by go_num, by rw [HS.out, stp_no (by omega)]; try rfl, by rw [HS.out, stp_no (by omega)]; exact C2⟩
        case measure => simp [intOf]; omega
    · obtain rfl : k = len := by omega
      obtain ⟨p1, p2, p3, p4, p5, p6⟩ := C.best
      obtain ⟨r1, r2, r3, r4, r5, r6⟩ := C.res
      go_wp2_with fail
      refine bodyPost_ret (v := .tuple #[tm ((best a (List.take k xs)).getD 0), .bool (best a (List.take k xs)).isSome]) (by simp [results, Try.results15, go_sem, tm, r1, r2, r3]) rfl ⟨rfl, ?_⟩
      exact ((C.old.setCell (by simp) _).setCell (by simp) _).setCell (by simp) _
end Go.Proofs.Qxb6612426a.Tm
