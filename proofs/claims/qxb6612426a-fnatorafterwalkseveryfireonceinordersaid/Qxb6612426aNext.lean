/-
  zzNextOf$1 (15): the least of the fires after a time.
-/
import Derived.Test.Qxb6612426aTime4
namespace Go.Proofs.Qxb6612426a.Tm
open Go.RowKit

/-- one fire looked at: the best so far -/
def stp (a : Int) (o : Option Int) (x : Int) : Option Int :=
  match o with
  | none => if a < x then some x else none
  | some m => if a < x ∧ x < m then some x else some m
/-- the least of the fires after a -/
def best (a : Int) (l : List Int) : Option Int := l.foldl (stp a) none

theorem best_snoc (a : Int) (xs : List Int) (k : Nat) (h : k < xs.length) : best a (xs.take (k + 1)) = stp a (best a (xs.take k)) (xs.getD k 0) := by
  rw [List.take_succ_eq_append_getElem h, best, List.foldl_append]
  simp [best, List.getD_eq_getElem?_getD, h]

theorem after_at (x y n s m t : Int) (hx : s * 1000000000 + n = x) (hy : t * 1000000000 + m = y) (h0 : 0 ≤ n) (h1 : n < 1000000000) (g0 : 0 ≤ m) (g1 : m < 1000000000) (w : World) :
    Calls Try.prog 16 #[.agg #[.int .u64 n, .int .i64 s, .pointer none], .agg #[.int .u64 m, .int .i64 t, .pointer none]] w fun e w' => e = .returned (.bool (decide (y < x))) ∧ Below w.heap.size w w' := by
  have h := after_any x y w
  rw [tm_eq x n s hx h0 h1, tm_eq y m t hy g0 g1] at h
  exact h
theorem before_at (x y n s m t : Int) (hx : s * 1000000000 + n = x) (hy : t * 1000000000 + m = y) (h0 : 0 ≤ n) (h1 : n < 1000000000) (g0 : 0 ≤ m) (g1 : m < 1000000000) (w : World) :
    Calls Try.prog 17 #[.agg #[.int .u64 n, .int .i64 s, .pointer none], .agg #[.int .u64 m, .int .i64 t, .pointer none]] w fun e w' => e = .returned (.bool (decide (x < y))) ∧ Below w.heap.size w w' := by
  have h := before_any x y w
  rw [tm_eq x n s hx h0 h1, tm_eq y m t hy g0 g1] at h
  exact h
theorem zzAt_at (d n s : Int) (hx : s * 1000000000 + n = d) (h0 : 0 ≤ n) (h1 : n < 1000000000) (g0 : -9223372036854775808 ≤ d) (g1 : d ≤ 9223372036854775807) (w : World) :
    Calls Try.prog 12 #[.int .i64 d] w fun e w' => e = .returned (.agg #[.int .u64 n, .int .i64 s, .pointer none]) ∧ Below w.heap.size w w' := by
  have h := zzAt_any d g0 g1 w
  rw [tm_eq d n s hx h0 h1] at h
  exact h

/-- block b holds the time m -/
structure At (w : World) (b : Nat) (m : Int) : Prop where
  c0 : w.cell? ⟨b, 0, none⟩ = some (.int .u64 (m % 1000000000))
  c1 : w.cell? ⟨b, 1, none⟩ = some (.int .i64 (m / 1000000000))
  c2 : w.cell? ⟨b, 2, none⟩ = some (.pointer none)
  f0 : w.frozen? ⟨b, 0, none⟩ = false
  f1 : w.frozen? ⟨b, 1, none⟩ = false
  f2 : w.frozen? ⟨b, 2, none⟩ = false

theorem At.step {w w1 : World} {b : Nat} {m : Int} (h : At w b m) (hb : Below w.heap.size w w1) (hlt : b < w.heap.size) : At w1 b m where
  c0 := by rw [hb.cell (p := ⟨b, 0, none⟩) hlt]; exact h.c0
  c1 := by rw [hb.cell (p := ⟨b, 1, none⟩) hlt]; exact h.c1
  c2 := by rw [hb.cell (p := ⟨b, 2, none⟩) hlt]; exact h.c2
  f0 := by rw [hb.frozen (p := ⟨b, 0, none⟩) hlt]; exact h.f0
  f1 := by rw [hb.frozen (p := ⟨b, 1, none⟩) hlt]; exact h.f1
  f2 := by rw [hb.frozen (p := ⟨b, 2, none⟩) hlt]; exact h.f2

def zobj : Obj := .cells #[.int .u64 0, .int .i64 0, .pointer none] 30
def tobj (n s : Int) : Obj := .cells #[.int .u64 n, .int .i64 s, .pointer none] 30
/-- the world in which the loop begins: the box of the argument, the result's, best's -/
def W3 (w : World) (n s : Int) : World := ((w.alloc (tobj n s)).alloc zobj).alloc zobj

/-- what stays true in the loop -/
structure Ctx (w wr : World) (n s m : Int) : Prop where
  hb : Below (w.heap.size + 1 + 1) (W3 w n s) wr
  hz : w.heap.size + 1 + 1 < wr.heap.size
  hat : At wr (w.heap.size + 1 + 1) m

theorem W3.below (w : World) (n s : Int) : Below w.heap.size w (W3 w n s) :=
  (((Below.refl _ _).alloc (Nat.le_refl _) _).alloc (by simp) _).alloc (by simp; omega) _

theorem Ctx.start (w : World) (n s : Int) : Ctx w (W3 w n s) n s 0 where
  hb := Below.refl _ _
  hz := by simp [W3]
  hat := by constructor <;> simp [W3, zobj, go_sem]

theorem Ctx.step {w wr w1 : World} {n s m : Int} (h : Ctx w wr n s m) (hb : Below wr.heap.size wr w1) : Ctx w w1 n s m where
  hb := h.hb.trans (hb.mono (by have := h.hz; omega))
  hz := Nat.lt_of_lt_of_le h.hz hb.size
  hat := h.hat.step hb h.hz

theorem Ctx.old {w wr : World} {n s m : Int} (h : Ctx w wr n s m) : Below w.heap.size w wr :=
  (W3.below w n s).trans (h.hb.mono (by omega))

theorem Ctx.box {w wr : World} {n s m : Int} (h : Ctx w wr n s m) :
    wr.cell? ⟨w.heap.size, 0, none⟩ = some (.int .u64 n) ∧ wr.cell? ⟨w.heap.size, 1, none⟩ = some (.int .i64 s) ∧ wr.cell? ⟨w.heap.size, 2, none⟩ = some (.pointer none) := by
  refine ⟨?_, ?_, ?_⟩
  · rw [h.hb.cell (p := ⟨w.heap.size, 0, none⟩) (by simp; omega)]; simp [W3, tobj, go_sem]
  · rw [h.hb.cell (p := ⟨w.heap.size, 1, none⟩) (by simp; omega)]; simp [W3, tobj, go_sem]
  · rw [h.hb.cell (p := ⟨w.heap.size, 2, none⟩) (by simp; omega)]; simp [W3, tobj, go_sem]

theorem Ctx.res {w wr : World} {n s m : Int} (h : Ctx w wr n s m) :
    wr.cell? ⟨w.heap.size + 1, 0, none⟩ = some (.int .u64 0) ∧ wr.cell? ⟨w.heap.size + 1, 1, none⟩ = some (.int .i64 0) ∧ wr.cell? ⟨w.heap.size + 1, 2, none⟩ = some (.pointer none)
    ∧ wr.frozen? ⟨w.heap.size + 1, 0, none⟩ = false ∧ wr.frozen? ⟨w.heap.size + 1, 1, none⟩ = false ∧ wr.frozen? ⟨w.heap.size + 1, 2, none⟩ = false := by
  refine ⟨?_, ?_, ?_, ?_, ?_, ?_⟩
  · rw [h.hb.cell (p := ⟨w.heap.size + 1, 0, none⟩) (by simp)]; simp [W3, zobj, go_sem]
  · rw [h.hb.cell (p := ⟨w.heap.size + 1, 1, none⟩) (by simp)]; simp [W3, zobj, go_sem]
  · rw [h.hb.cell (p := ⟨w.heap.size + 1, 2, none⟩) (by simp)]; simp [W3, zobj, go_sem]
  · rw [h.hb.frozen (p := ⟨w.heap.size + 1, 0, none⟩) (by simp)]; simp [W3, zobj, go_sem]
  · rw [h.hb.frozen (p := ⟨w.heap.size + 1, 1, none⟩) (by simp)]; simp [W3, zobj, go_sem]
  · rw [h.hb.frozen (p := ⟨w.heap.size + 1, 2, none⟩) (by simp)]; simp [W3, zobj, go_sem]

theorem Ctx.best {w wr : World} {n s m : Int} (h : Ctx w wr n s m) :
    wr.cell? ⟨w.heap.size + 1 + 1, 0, none⟩ = some (.int .u64 (m % 1000000000)) ∧ wr.cell? ⟨w.heap.size + 1 + 1, 1, none⟩ = some (.int .i64 (m / 1000000000)) ∧ wr.cell? ⟨w.heap.size + 1 + 1, 2, none⟩ = some (.pointer none)
    ∧ wr.frozen? ⟨w.heap.size + 1 + 1, 0, none⟩ = false ∧ wr.frozen? ⟨w.heap.size + 1 + 1, 1, none⟩ = false ∧ wr.frozen? ⟨w.heap.size + 1 + 1, 2, none⟩ = false :=
  ⟨h.hat.c0, h.hat.c1, h.hat.c2, h.hat.f0, h.hat.f1, h.hat.f2⟩
end Go.Proofs.Qxb6612426a.Tm
