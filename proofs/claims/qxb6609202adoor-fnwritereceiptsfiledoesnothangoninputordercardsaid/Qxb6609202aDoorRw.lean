/-
  zzb1Less (22); rows of triples: reading, writing, making.
-/
import Derived.Test.Qxb6609202aDoorPlain
import Derived.Laws.MakeOwn
namespace Go.Proofs.Qxb6609202aDoor.Wr
open Go.RowKit Go.Lib Go.Sort

def agg3 (x : R3) : Value := .agg #[.int .i64 x.1, .int .i64 x.2.1, .int .i64 x.2.2]

set_option maxHeartbeats 2000000 in
set_option maxRecDepth 100000 in
theorem zzless_any (w : World) (x y : R3) :
    Calls Tryd.prog 22 #[agg3 x, agg3 y] w fun e w' => e = .returned (.bool (lt3 x y)) ∧ Kp (fun _ => False) w w' := by
  obtain ⟨x1, x2, x3⟩ := x
  obtain ⟨y1, y2, y3⟩ := y
  unfold agg3 lt3
  dsimp only
  generalize hL : (if x1 = y1 then if x2 = y2 then decide (x3 < y3) else decide (x2 < y2) else decide (x1 < y1)) = L
  have HL := Hid.lay hL
  clear hL
  go_enter Tryd.func22, Tryd.ntmps22
  go_wp2_with fail
  · rename_i h1
    go_ret
    rw [← HL.out, if_neg (by simpa using h1)]
    exact ⟨rfl, (Kp.alloc' w _).trans (Kp.alloc' _ _) (fun _ _ e => e)⟩
  · rename_i h1 _ _ h2
    go_ret
    rw [← HL.out, if_pos (by simpa using h1), if_neg (by simpa using h2)]
    exact ⟨rfl, (Kp.alloc' w _).trans (Kp.alloc' _ _) (fun _ _ e => e)⟩
  · rename_i h1 h2
    go_ret
    rw [← HL.out, if_pos (by simpa using h1), if_pos (by simpa using h2)]
    exact ⟨rfl, (Kp.alloc' w _).trans (Kp.alloc' _ _) (fun _ _ e => e)⟩

/-- a row of triples at block blk -/
structure RW (w : World) (blk : Nat) (d : Array R3) : Prop where
  row : HoldsK enc3 3 w blk 0 d
  lt : blk < w.heap.size

theorem RW.cells {w : World} {blk : Nat} {d : Array R3} (h : RW w blk d) (i : Nat) (hi : i < d.size) :
    w.cell? ⟨blk, i * 3, none⟩ = some (.int .i64 d[i]!.1) ∧ w.cell? ⟨blk, i * 3 + 1, none⟩ = some (.int .i64 d[i]!.2.1) ∧ w.cell? ⟨blk, i * 3 + 2, none⟩ = some (.int .i64 d[i]!.2.2) := by
  have h0 := (h.row.cell (i := i) (c := 0) hi (by decide)).1
  have h1 := (h.row.cell (i := i) (c := 1) hi (by decide)).1
  have h2 := (h.row.cell (i := i) (c := 2) hi (by decide)).1
  rw [Nat.zero_add] at h0 h1 h2
  exact ⟨h0, h1, h2⟩
theorem RW.frozen {w : World} {blk : Nat} {d : Array R3} (h : RW w blk d) (i : Nat) (hi : i < d.size) :
    w.frozen? ⟨blk, i * 3, none⟩ = false ∧ w.frozen? ⟨blk, i * 3 + 1, none⟩ = false ∧ w.frozen? ⟨blk, i * 3 + 2, none⟩ = false := by
  have h0 := (h.row.cell (i := i) (c := 0) hi (by decide)).2
  have h1 := (h.row.cell (i := i) (c := 1) hi (by decide)).2
  have h2 := (h.row.cell (i := i) (c := 2) hi (by decide)).2
  rw [Nat.zero_add] at h0 h1 h2
  exact ⟨h0, h1, h2⟩
theorem RW.keep {A : Nat → Prop} {w w' : World} {blk : Nat} {d : Array R3} (h : RW w blk d) (k : Kp A w w') (h1 : ¬ A blk) : RW w' blk d :=
  ⟨HoldsK.keep h.row (k.block blk h.lt h1), Nat.lt_of_lt_of_le h.lt k.size⟩

theorem set_get_ne (d : Array R3) (v : R3) {k t : Nat} (h : t ≠ k) (ht : t < d.size) : (d.set! k v)[t]! = d[t]! := by
  simp [ht, Ne.symm h]
theorem flat_set (d : Array R3) (k : Nat) (v : R3) (hk : k < d.size) : setMany (flatK enc3 3 d) (k * 3) (enc3 v) = flatK enc3 3 (d.set! k v) := by
  refine ext_get! (by simp) fun t ht => ?_
  have ht' : t < d.size * 3 := by simpa using ht
  rw [get_setMany _ _ _ t (by simpa using ht'), get_flatK _ _ _ t ht', get_flatK _ _ _ t (by simpa using ht'), show (enc3 v).length = 3 from rfl]
  by_cases a : t / 3 = k
  · rw [if_pos ((blk_iff 3 k t (by decide)).2 a), a, set_get_self d v hk, show t - k * 3 = t % 3 by omega]
  · rw [if_neg (fun h => a ((blk_iff 3 k t (by decide)).1 h))]
    rw [set_get_ne d v a (by omega)]

theorem RW.put {w : World} {blk : Nat} {d : Array R3} (h : RW w blk d) (k : Nat) (hk : k < d.size) (v : R3) : RW (w.setCells blk (k * 3) (enc3 v)) blk (d.set! k v) ∧ Kp (fun b => b = blk) w (w.setCells blk (k * 3) (enc3 v)) := by
  have e : w.setCells blk (k * 3) (enc3 v) = putRowK enc3 3 w blk 0 (d.set! k v) := by
    conv => lhs; rw [← putRowK_self enc3 3 w blk 0 d h.row]
    unfold putRowK
    rw [← flat_set d k v hk, ← setCells_putRow _ _ _ _ _ _ (by simp [enc3]; omega), Nat.zero_add]
  have hk' : Kp (fun b => b = blk) w (putRowK enc3 3 w blk 0 (d.set! k v)) := by
    unfold putRowK putRow mapBlock
    exact ⟨rfl, rfl, rfl, by simp, fun k _ hne => by simp [Array.getElem?_modify, Ne.symm hne]⟩
  rw [e]
  exact ⟨⟨holdsK_putRowK enc3 3 w blk 0 d _ h.row (by simp), Nat.lt_of_lt_of_le h.lt hk'.size⟩, hk'⟩

theorem info38 : (Tryd.prog.info? 38).map (fun i => (i.zero, i.size, i.bytes)) = some (some (.agg #[.int .i64 0, .int .i64 0, .int .i64 0]), 3, 24) := by kernel_rfl
theorem make34 (n : Nat) (hn : n ≤ 1048576) (w : World) :
    (Instr.makeSlice 34 (.int .i64 n) (.int .i64 n)).run Tryd.prog w = .ok (.slice (some ⟨w.heap.size, 0, none⟩) n n) (w.alloc (.cells (madeCells #[.int .i64 0, .int .i64 0, .int .i64 0] (n * 3)) 38)) := by
  obtain ⟨i0, hi, hz0, hz1, hz2⟩ := info_parts info38
  have h := run_make (P := Tryd.prog) w 34 38 i0 (.agg #[.int .i64 0, .int .i64 0, .int .i64 0]) (by kernel_rfl) hi hz0 .i64 .i64 n n (by omega) (by omega) (by rw [hz2]; omega) (by omega)
  simpa [hz1, Value.cells] using h

theorem RW.made (n : Nat) (w : World) (T : TypeId) : RW (w.alloc (.cells (madeCells #[.int .i64 0, .int .i64 0, .int .i64 0] (n * 3)) T)) w.heap.size (Array.replicate n (0, 0, 0)) := by
  refine ⟨fun t ht => ?_, by simp⟩
  have ht' : t < n * 3 := by simpa using ht
  rw [get_flatK _ _ _ t (by simpa using ht'), Nat.zero_add, bang_get _ (by simp; omega)]
  have h3 : t % 3 = 0 ∨ t % 3 = 1 ∨ t % 3 = 2 := by omega
  refine ⟨?_, by simp [go_sem]⟩
  rcases h3 with h | h | h <;> simp [go_sem, madeCells, ht', h, enc3]

end Go.Proofs.Qxb6609202aDoor.Wr
