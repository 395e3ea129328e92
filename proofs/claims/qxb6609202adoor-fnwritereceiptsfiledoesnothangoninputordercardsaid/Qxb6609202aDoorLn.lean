/-
  What WriteReceipts's loop holds: the writer, the line in hand, the table; each step.
-/
import Derived.Test.Qxb6609202aDoorBuf2
import Derived.Test.Qxb6609202aDoorSr
namespace Go.Proofs.Qxb6609202aDoor.Wr
open Go.RowKit Go.Lib Go.Sort

/-- the table of powers of ten, whatever turns from block B on -/
def Tb (B : Nat) (w : World) : Prop := Lib.TabBelow Tryd.prog B w pw .u64 Lib.pow10Tab
theorem Tb.keep {A : Nat → Prop} {B : Nat} {w w' : World} (h : Tb B w) (hB : B ≤ w.heap.size) (k : Kp A w w') (hA : ∀ i, A i → B ≤ i) : Tb B w' :=
  Lib.TabBelow.on h ⟨k.os, k.tape, k.output, k.size, fun i hi => k.block i (by omega) (fun e => by have := hA i e; omega)⟩

theorem Kp.of_fr {v v' : Value} {w w' : World} (h : Fr v v' w w') : Kp (fun k => v.ownBlock = some k) w w' :=
  ⟨h.grown.os, h.grown.tape, h.grown.output, h.grown.size, fun k hk hne => h.grown.block k hk (fun e => hne e.symm)⟩

/-- one line -/
def line3 (x : R3) : List UInt8 := Lib.itoa x.1 ++ [44] ++ Lib.itoa x.2.1 ++ [44] ++ Lib.itoa x.2.2 ++ [10]
def text3 (d : List R3) : List UInt8 := d.flatMap line3

/-- the writer (W, F) before the Builder S, and the line in hand; every block that is written lies from w2's end on, but S -/
structure Lp (B : Nat) (w2 w : World) (S W F : Nat) (v ln : Value) (T P L : List UInt8) : Prop where
  snk : Snk w B S W F v T P
  own : w.ownsRow B 5 1 ln L.length (Lib.byteCells L)
  ap : ∀ g, ln.ownBlock = some g → ¬ (g = S ∨ g = W ∨ g = F ∨ v.ownBlock = some g)
  lv : ∀ g, v.ownBlock = some g → w2.heap.size ≤ g
  ll : ∀ g, ln.ownBlock = some g → w2.heap.size ≤ g
  lW : w2.heap.size ≤ W
  lF : w2.heap.size ≤ F
  lS : B ≤ S
  lB : B ≤ w2.heap.size
  tab : Tb B w
  kp : Kp (fun k => k = S) w2 w

theorem own_lt {w : World} {B n : Nat} {v : Value} {xs : List Value} (h : w.ownsRow B 5 1 v n xs) {g : Nat} (hg : v.ownBlock = some g) : g < w.heap.size := by
  rcases h.2 with ⟨rfl, _⟩ | ⟨g', cap, cur, rfl, _, hh, _⟩
  · cases hg
  · cases hg
    exact lt_of_cells hh
theorem Snk.keep {A : Nat → Prop} {w w' : World} {B S W F : Nat} {v : Value} {T P : List UInt8} (h : Snk w B S W F v T P) (k : Kp A w w') (hS : ¬ A S) (hW : ¬ A W) (hF : ¬ A F) (hv : ∀ g, v.ownBlock = some g → ¬ A g) : Snk w' B S W F v T P := by
  obtain ⟨cur, hc, h1, h2⟩ := h.bF
  exact ⟨h.bld.keep k hS hv, k.cells h.bW hW, ⟨cur, k.cells hc hF, h1, h2⟩, h.hP, h.neF, h.hnil⟩
theorem Snk.lt {w : World} {B S W F : Nat} {v : Value} {T P : List UInt8} (h : Snk w B S W F v T P) : S < w.heap.size ∧ W < w.heap.size ∧ F < w.heap.size := by
  obtain ⟨q, hb, _⟩ := h.bld.bS
  obtain ⟨cur, hc, _⟩ := h.bF
  exact ⟨lt_of_cells hb, lt_of_cells h.bW, lt_of_cells hc⟩

theorem Lp.keep {B : Nat} {w2 w w' : World} {S W F : Nat} {v ln : Value} {T P L : List UInt8} (h : Lp B w2 w S W F v ln T P L) (k : Kp (fun _ => False) w w') : Lp B w2 w' S W F v ln T P L :=
  ⟨h.snk.keep k (fun e => e) (fun e => e) (fun e => e) (fun _ _ e => e), k.owns h.own (fun _ _ e => e), h.ap, h.lv, h.ll, h.lW, h.lF, h.lS, h.lB, h.tab.keep (Nat.le_trans h.lB h.kp.size) k (fun _ e => e.elim), h.kp.trans k fun _ _ e => e.elim⟩
theorem Lp.hB {B : Nat} {w2 w : World} {S W F : Nat} {v ln : Value} {T P L : List UInt8} (h : Lp B w2 w S W F v ln T P L) : B ≤ w.heap.size := Nat.le_trans h.lB h.kp.size

/-- the line has grown -/
theorem Lp.grow {B : Nat} {w2 w w' : World} {S W F : Nat} {v ln ln' : Value} {T P L L' : List UInt8} (h : Lp B w2 w S W F v ln T P L) (f : Fr ln ln' w w') (o : w'.ownsRow B 5 1 ln' L'.length (Lib.byteCells L')) : Lp B w2 w' S W F v ln' T P L' := by
  have k := Kp.of_fr f
  have hS : ¬ ln.ownBlock = some S := fun e => h.ap S e (.inl rfl)
  have hW : ¬ ln.ownBlock = some W := fun e => h.ap W e (.inr (.inl rfl))
  have hF : ¬ ln.ownBlock = some F := fun e => h.ap F e (.inr (.inr (.inl rfl)))
  have hv : ∀ g, v.ownBlock = some g → ¬ ln.ownBlock = some g := fun g hg e => h.ap g e (.inr (.inr (.inr hg)))
  obtain ⟨s1, s2, s3⟩ := h.snk.lt
  refine ⟨h.snk.keep k hS hW hF hv, o, fun g hg => ?_, h.lv, fun g hg => ?_, h.lW, h.lF, h.lS, h.lB, h.tab.keep h.hB k (fun i e => Nat.le_trans h.lB (h.ll i e)), h.kp.trans k fun i hi e => absurd (h.ll i e) (by omega)⟩
  · rcases f.blk with e | ⟨g', e, hge⟩
    · exact h.ap g (e ▸ hg)
    · obtain rfl : g' = g := by rw [e] at hg; exact Option.some.inj hg
      rintro (rfl | rfl | rfl | e2)
      · omega
      · omega
      · omega
      · have := own_lt h.snk.bld.own e2
        omega
  · rcases f.blk with e | ⟨g', e, hge⟩
    · exact h.ll g (e ▸ hg)
    · obtain rfl : g' = g := by rw [e] at hg; exact Option.some.inj hg
      exact Nat.le_trans h.kp.size hge

/-- the line has been written -/
theorem Lp.wrote {B : Nat} {w2 w w' : World} {S W F : Nat} {v v' ln : Value} {T P L T' P' : List UInt8} (h : Lp B w2 w S W F v ln T P L) (s : Snk w' B S W F v' T' P')
    (k : Kp (fun k => k = S ∨ k = W ∨ k = F ∨ v.ownBlock = some k) w w') (b : v'.ownBlock = v.ownBlock ∨ ∃ g, v'.ownBlock = some g ∧ w.heap.size ≤ g) : Lp B w2 w' S W F v' ln T' P' L := by
  refine ⟨s, k.owns h.own h.ap, fun g hg => ?_, fun g hg => ?_, h.ll, h.lW, h.lF, h.lS, h.lB, h.tab.keep h.hB k (fun i e => ?_), h.kp.trans k fun i hi e => ?_⟩
  · have h1 := h.ap g hg
    rcases b with e | ⟨g', e, hge⟩
    · rw [e]
      exact h1
    · rintro (e2 | e2 | e2 | e2)
      · exact h1 (.inl e2)
      · exact h1 (.inr (.inl e2))
      · exact h1 (.inr (.inr (.inl e2)))
      · rw [e] at e2
        have := own_lt h.own hg
        have := Option.some.inj e2
        omega
  · rcases b with e | ⟨g', e, hge⟩
    · exact h.lv g (e ▸ hg)
    · obtain rfl : g' = g := by rw [e] at hg; exact Option.some.inj hg
      exact Nat.le_trans h.kp.size hge
  · have h1 := h.lS; have h2 := h.lW; have h3 := h.lF; have h4 := h.lB
    rcases e with rfl | rfl | rfl | e
    · exact h1
    · omega
    · omega
    · have := h.lv i e
      omega
  · have h2 := h.lW; have h3 := h.lF
    rcases e with rfl | rfl | rfl | e
    · rfl
    · omega
    · omega
    · have := h.lv i e
      omega

/-- line[:0] -/
theorem cut_line {B n : Nat} {w : World} {ln : Value} {xs : List Value} (h : w.ownsRow B 5 1 ln n xs) :
    ∃ ln0, (∀ W, (Instr.sliceAt 26 ln none (some (.int .i64 0)) none).run Tryd.prog W = .ok ln0 W) ∧ w.ownsRow B 5 1 ln0 0 [] ∧ ln0.ownBlock = ln.ownBlock := by
  rcases h.2 with ⟨rfl, _⟩ | ⟨g, cap, cur, rfl, hg, hh, h1, h2, h3, _⟩
  · exact ⟨.slice none 0 0, fun W => by simp [go_sem], ⟨rfl, .inl ⟨rfl, rfl⟩⟩, rfl⟩
  · exact ⟨.slice (some ⟨g, 0, none⟩) 0 cap, fun W => by simp [go_sem], ⟨rfl, .inr ⟨g, cap, cur, rfl, hg, hh, Nat.zero_le _, h2, h3, rfl⟩⟩, rfl⟩
theorem Lp.cut {B : Nat} {w2 w : World} {S W F : Nat} {v ln ln0 : Value} {T P L : List UInt8} (h : Lp B w2 w S W F v ln T P L) (o : w.ownsRow B 5 1 ln0 0 []) (e : ln0.ownBlock = ln.ownBlock) : Lp B w2 w S W F v ln0 T P [] :=
  ⟨h.snk, o, by rw [e]; exact h.ap, h.lv, by rw [e]; exact h.ll, h.lW, h.lF, h.lS, h.lB, h.tab, h.kp⟩
end Go.Proofs.Qxb6609202aDoor.Wr
