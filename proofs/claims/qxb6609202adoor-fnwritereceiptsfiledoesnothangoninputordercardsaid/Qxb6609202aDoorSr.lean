/-
  WriteReceipts's closure (31) and the Swapper's literal (53): what a sort over them may lean on. (The shelf's contract of sort.Slice asks for a 'less' that lays no block; this one lays two.)
-/
import Derived.Test.Qxb6609202aDoorBld
import Derived.Deep.QuietTactic
import Derived.BigQuiet
import Derived.Deep.RegionHeld3
namespace Go.Proofs.Qxb6609202aDoor.Wr
open Go.RowKit Go.Lib Go.Sort

theorem Kp.alloc' (w : World) (o : Obj) : Kp (fun _ => False) w (w.alloc o) := Kp.of_grown (World.grownBy_alloc w o none) |>.mono (fun _ _ e => by simp at e)

abbrev R3 := Int × Int × Int
def enc3 (x : R3) : List Value := [.int .i64 x.1, .int .i64 x.2.1, .int .i64 x.2.2]
def lt2 (x y : R3) : Bool := decide (x.1 < y.1) || (x.1 == y.1 && decide (x.2.1 < y.2.1))

/-- the row at blk holds d; the closure's captured variable (block Bs) holds the slice -/
structure SR (w : World) (blk Bs c : Nat) (d : Array R3) : Prop where
  row : HoldsK enc3 3 w blk 0 d
  cap : w.cell? ⟨Bs, 0, none⟩ = some (.slice (some ⟨blk, 0, none⟩) d.size c)
  ne : Bs ≠ blk
  lt : blk < w.heap.size

theorem SR.cells {w : World} {blk Bs c : Nat} {d : Array R3} (h : SR w blk Bs c d) (i : Nat) (hi : i < d.size) :
    w.cell? ⟨blk, i * 3, none⟩ = some (.int .i64 d[i]!.1) ∧ w.cell? ⟨blk, i * 3 + 1, none⟩ = some (.int .i64 d[i]!.2.1) ∧ w.cell? ⟨blk, i * 3 + 2, none⟩ = some (.int .i64 d[i]!.2.2) := by
  have h0 := (h.row.cell (i := i) (c := 0) hi (by decide)).1
  have h1 := (h.row.cell (i := i) (c := 1) hi (by decide)).1
  have h2 := (h.row.cell (i := i) (c := 2) hi (by decide)).1
  rw [Nat.zero_add] at h0 h1 h2
  exact ⟨h0, h1, h2⟩

theorem HoldsK.keep {w w' : World} {blk : Nat} {d : Array R3} (h : HoldsK enc3 3 w blk 0 d) (e : w'.heap[blk]? = w.heap[blk]?) : HoldsK enc3 3 w' blk 0 d := by
  intro t ht
  have h2 := h t ht
  exact ⟨(World.cell?_of_block e).trans h2.1, (World.frozen?_of_block e).trans h2.2⟩
theorem SR.keep {A : Nat → Prop} {w w' : World} {blk Bs c : Nat} {d : Array R3} (h : SR w blk Bs c d) (k : Kp A w w') (h1 : ¬ A blk) (h2 : ¬ A Bs) : SR w' blk Bs c d :=
  ⟨HoldsK.keep h.row (k.block blk h.lt h1), k.cell h.cap h2, h.ne, Nat.lt_of_lt_of_le h.lt k.size⟩

set_option maxHeartbeats 2000000 in
set_option maxRecDepth 100000 in
theorem less_any (w : World) (blk Bs c : Nat) (d : Array R3) (h : Hid (SR w blk Bs c d)) (i j : Nat) (hi : i < d.size) (hj : j < d.size) :
    Calls Tryd.prog 31 #[.int .i64 i, .int .i64 j, .pointer (some ⟨Bs, 0, none⟩)] w fun e w' => e = .returned (.bool (lt2 d[i]! d[j]!)) ∧ Kp (fun _ => False) w w' := by
  obtain ⟨i0, i1, i2⟩ := h.out.cells i hi
  obtain ⟨j0, j1, j2⟩ := h.out.cells j hj
  have cp := h.out.cap
  generalize hX : d[i]! = x at *
  generalize hY : d[j]! = y at *
  clear hX hY
  obtain ⟨x1, x2, x3⟩ := x
  obtain ⟨y1, y2, y3⟩ := y
  dsimp only at *
  have hlt : lt2 (x1, x2, x3) (y1, y2, y3) = (decide (x1 < y1) || (x1 == y1 && decide (x2 < y2))) := rfl
  generalize lt2 (x1, x2, x3) (y1, y2, y3) = L at hlt ⊢
  have hways : (decide (x1 < y1) = true ∧ L = true) ∨ (decide (x1 < y1) = false ∧ (x1 == y1) = false ∧ L = false) ∨ (decide (x1 < y1) = false ∧ (x1 == y1) = true ∧ decide (x2 < y2) = true ∧ L = true) ∨ (decide (x1 < y1) = false ∧ (x1 == y1) = true ∧ decide (x2 < y2) = false ∧ L = false) := by
    rw [hlt]
    cases decide (x1 < y1) <;> cases (x1 == y1) <;> cases decide (x2 < y2) <;> simp
  have HW : Hid ((decide (x1 < y1) = true ∧ L = true) ∨ (decide (x1 < y1) = false ∧ (x1 == y1) = false ∧ L = false) ∨ (decide (x1 < y1) = false ∧ (x1 == y1) = true ∧ decide (x2 < y2) = true ∧ L = true) ∨ (decide (x1 < y1) = false ∧ (x1 == y1) = true ∧ decide (x2 < y2) = false ∧ L = false)) := hways
  clear hlt hways
  have n1 := World.new_ne w ⟨Bs, 0, none⟩ cp
  have n2 := World.new_ne w ⟨blk, i * 3, none⟩ i0
  go_enter Tryd.func31, Tryd.ntmps31
  go_wp2_with fail
  go_region_held3 (fun w' => w'.cell? ⟨Bs, 0, none⟩ = some (.slice (some ⟨blk, 0, none⟩) d.size c) ∧ w'.cell? ⟨blk, i * 3, none⟩ = some (.int .i64 x1) ∧ w'.cell? ⟨blk, i * 3 + 1, none⟩ = some (.int .i64 x2) ∧ w'.cell? ⟨blk, i * 3 + 2, none⟩ = some (.int .i64 x3) ∧ w'.cell? ⟨blk, j * 3, none⟩ = some (.int .i64 y1) ∧ w'.cell? ⟨blk, j * 3 + 1, none⟩ = some (.int .i64 y2) ∧ w'.cell? ⟨blk, j * 3 + 2, none⟩ = some (.int .i64 y3)) (go_keep) (fail)
  all_goals
    clear i0 i1 i2 j0 j1 j2
    rcases HW.out with ⟨b1, rfl⟩ | ⟨b1, b2, rfl⟩ | ⟨b1, b2, b3, rfl⟩ | ⟨b1, b2, b3, rfl⟩
  all_goals (go_wp2_with fail)
  all_goals go_ret
  all_goals exact ⟨rfl, Kp.drew ((Kp.alloc' w _).trans (Kp.alloc' _ _) (fun _ _ e => e)) 1⟩

/-- the world behind a swap -/
def swW (w : World) (blk : Nat) (d : Array R3) (i j : Nat) : World := (w.setCells blk (0 + i * 3) (enc3 d[j]!)).setCells blk (0 + j * 3) (enc3 d[i]!)

theorem info54 : (Tryd.prog.info? 54).map (fun i => i.size) = some 3 := by kernel_rfl
theorem swap_run (w : World) (blk Bs c n : Nat) (d : Array R3) (h : SR w blk Bs c d) (hn : d.size = n) (i j : Nat) (hi : i < n) (hj : j < n) :
    (callFunc 53 #[.int .i64 i, .int .i64 j, .slice (some ⟨blk, 0, none⟩) n c, typeHandle Tryd.prog 54]).run Tryd.prog w = .ok (.value (.tuple #[])) (swW w blk d i j) := by
  obtain ⟨ie, hie, hs⟩ := Option.map_eq_some_iff.1 info54
  have hx := fun args W => run_callFunc_extern Tryd.func53 (by kernel_rfl) (by kernel_rfl) (by kernel_rfl) (e := Extern.ReflectliteSwapper.swap false) (by kernel_rfl) args W
  exact swapSwapsK_of_literal (P := Tryd.prog) false 53 hx 54 ie hie enc3 3 (fun _ => rfl) hs (fun _ => by kernel_rfl) (fun x v hv => by simp [enc3] at hv; rcases hv with rfl | rfl | rfl <;> rfl) blk 0 n c w d h.row hn i j hi hj

theorem swW_row (w : World) (blk : Nat) (d : Array R3) (h : HoldsK enc3 3 w blk 0 d) (i j : Nat) (hi : i < d.size) (hj : j < d.size) : swW w blk d i j = putRowK enc3 3 w blk 0 (swp d i j) := by
  have b : ∀ x, x < d.size → x * 3 + 3 ≤ d.size * 3 := fun x hx => by omega
  unfold swW
  conv => lhs; rw [← putRowK_self enc3 3 w blk 0 d h]
  unfold putRowK
  rw [setCells_putRow _ _ _ _ _ _ (by simp [enc3]; have := b i hi; omega), setCells_putRow _ _ _ _ _ _ (by simp [enc3]; have := b j hj; omega), setMany_swp enc3 3 (fun _ => rfl) d i j hi hj]
theorem SR.swap {w : World} {blk Bs c : Nat} {d : Array R3} (h : SR w blk Bs c d) (i j : Nat) (hi : i < d.size) (hj : j < d.size) : SR (swW w blk d i j) blk Bs c (swp d i j) ∧ Kp (fun k => k = blk) w (swW w blk d i j) := by
  rw [swW_row w blk d h.row i j hi hj]
  have hk : Kp (fun k => k = blk) w (putRowK enc3 3 w blk 0 (swp d i j)) := by
    unfold putRowK putRow mapBlock
    exact ⟨rfl, rfl, rfl, by simp, fun k _ hne => by simp [Array.getElem?_modify, Ne.symm hne]⟩
  refine ⟨⟨holdsK_putRowK enc3 3 w blk 0 d _ h.row (by simp [size_swp]), ?_, h.ne, Nat.lt_of_lt_of_le h.lt hk.size⟩, hk⟩
  rw [cell?_putRowK_other enc3 3 w blk 0 _ _ (by exact h.ne), size_swp]
  exact h.cap
end Go.Proofs.Qxb6609202aDoor.Wr
