/-
  (*bufio.Writer): NewWriter (23), NewWriterSize (32), Available (35), Buffered (36), Flush (29), Write (28), over a strings.Builder.
-/
import Derived.Test.Qxb6609202aDoorBld
import Derived.Deep.QuietTactic
import Derived.BigQuiet
import Derived.Deep.RegionHeld3
namespace Go.Proofs.Qxb6609202aDoor.Wr
open Go.RowKit

/-- a bufio.Writer at W over the buffer F, in front of the Builder at S: T lies in the Builder, P in the buffer -/
structure Snk (w : World) (B S W F : Nat) (v : Value) (T P : List UInt8) : Prop where
  bld : Bld w B S v T
  bW : w.heap[W]? = some (.cells #[.nilIface, .slice (some ⟨F, 0, none⟩) 4096 4096, .int .i64 P.length, .iface 40 (.pointer (some ⟨S, 0, none⟩))] 74 (0, 0))
  bF : ∃ cur, w.heap[F]? = some (.cells cur 5 (0, 0)) ∧ cur.size = 4096 ∧ cur.toList.take P.length = Lib.byteCells P
  hP : P.length ≤ 4096
  neF : v.ownBlock ≠ some F
  hnil : T = [] → v = .slice none 0 0

theorem Kp.drewn {A : Nat → Prop} {w w' : World} (n : Nat) (h : Kp A (w.drewN n) w') : Kp A w w' := ⟨h.os, h.tape, h.output, h.size, h.block⟩
theorem Kp.alloc (w : World) (o : Obj) : Kp (fun _ => False) w (w.alloc o) := Kp.of_grown (World.grownBy_alloc w o none) |>.mono (fun _ _ e => by simp at e)
theorem Snk.neSF {w : World} {B S W F : Nat} {v : Value} {T P : List UInt8} (h : Snk w B S W F v T P) : F ≠ S := by
  obtain ⟨q, hb, _⟩ := h.bld.bS
  obtain ⟨cur, hc, _⟩ := h.bF
  rintro rfl
  rw [hb] at hc
  simp at hc
theorem Snk.news {w : World} {B S W F : Nat} {v : Value} {T P : List UInt8} (h : Snk w B S W F v T P) : ∀ j u, (Lib.byteCells P)[j]? = some u → w.drew.cell? ((⟨F, 0, none⟩ : Addr).add j) = some u := by
  intro j u hj
  obtain ⟨cur, hc, hs, ht⟩ := h.bF
  have hjl : j < P.length := by
    have := (List.getElem?_eq_some_iff.1 hj).1
    simpa [Lib.byteCells_length] using this
  have e : w.drew.cell? ((⟨F, 0, none⟩ : Addr).add j) = cur[j]? := by
    have h2 : w.drew.heap[F]? = some (.cells cur 5 (0, 0)) := hc
    have h3 : (⟨F, 0, none⟩ : Addr).add j = ⟨F, j, none⟩ := by unfold Addr.add; split <;> simp_all
    rw [h3, Lib.cell_of_heap h2]
  rw [e, ← Array.getElem?_toList, ← hj, ← ht, List.getElem?_take]
  simp [hjl]

theorem Snk.neSW {w : World} {B S W F : Nat} {v : Value} {T P : List UInt8} (h : Snk w B S W F v T P) : W ≠ S := by
  obtain ⟨q, hb, _⟩ := h.bld.bS
  have hc := h.bW
  rintro rfl
  rw [hb] at hc
  simp at hc
theorem Snk.neWF {w : World} {B S W F : Nat} {v : Value} {T P : List UInt8} (h : Snk w B S W F v T P) : W ≠ F := by
  obtain ⟨cur, hb, _⟩ := h.bF
  have hc := h.bW
  rintro rfl
  rw [hb] at hc
  simp at hc
theorem Snk.neW {w : World} {B S W F : Nat} {v : Value} {T P : List UInt8} (h : Snk w B S W F v T P) : v.ownBlock ≠ some W := Lib.ownBlock_ne h.bld.own h.bW (by decide)
/-- what stands behind the Builder's Write -/
theorem Snk.behind {w w2 : World} {B S W F : Nat} {v v2 : Value} {T P T2 : List UInt8} (h : Snk w B S W F v T P) (_ : Bld w2 B S v2 T2) (k : Kp (fun k => k = S ∨ v.ownBlock = some k) w.drew w2) :
    Hid ((w2.cell? ⟨W, 0, none⟩ = some .nilIface ∧ w2.cell? ⟨W, 1, none⟩ = some (.slice (some ⟨F, 0, none⟩) 4096 4096) ∧ w2.cell? ⟨W, 2, none⟩ = some (.int .i64 P.length) ∧ w2.cell? ⟨W, 3, none⟩ = some (.iface 40 (.pointer (some ⟨S, 0, none⟩)))) ∧ w2.frozen? ⟨W, 2, none⟩ = false ∧
      w2.heap[W]? = some (.cells #[.nilIface, .slice (some ⟨F, 0, none⟩) 4096 4096, .int .i64 P.length, .iface 40 (.pointer (some ⟨S, 0, none⟩))] 74 (0, 0)) ∧ w2.heap[F]? = w.heap[F]?) := by
  obtain ⟨cur, hc, _⟩ := h.bF
  have hW := k.cells (w := w.drew) (b := W) h.bW (fun e => e.elim h.neSW h.neW)
  have hF := k.cells (w := w.drew) (b := F) hc (fun e => e.elim h.neSF h.neF)
  exact ⟨⟨by rw [Lib.cell_of_heap hW]; rfl, by rw [Lib.cell_of_heap hW]; rfl, by rw [Lib.cell_of_heap hW]; rfl, by rw [Lib.cell_of_heap hW]; rfl⟩, Lib.frozen_of_heap hW 2, hW, hF.trans hc.symm⟩

set_option maxHeartbeats 2000000 in
set_option maxRecDepth 100000 in
theorem flush_some (B S W F : Nat) (v : Value) (T P : List UInt8) (w : World) (h0 : P ≠ []) (hs : Hid (Snk w B S W F v T P)) (hlim : T.length + P.length ≤ 140737488355328) (hbase : B ≤ w.heap.size) :
    Calls Tryd.prog 29 #[.pointer (some ⟨W, 0, none⟩)] w fun e w' => e = .returned .nilIface ∧ ∃ v', Snk w' B S W F v' (T ++ P) [] ∧ Kp (fun k => k = S ∨ k = W ∨ v.ownBlock = some k) w w' ∧ (v'.ownBlock = v.ownBlock ∨ ∃ g, v'.ownBlock = some g ∧ w.heap.size ≤ g) := by
  have c0 : w.cell? ⟨W, 0, none⟩ = some .nilIface := by rw [Lib.cell_of_heap hs.out.bW]; rfl
  have c1 : w.cell? ⟨W, 1, none⟩ = some (.slice (some ⟨F, 0, none⟩) 4096 4096) := by rw [Lib.cell_of_heap hs.out.bW]; rfl
  have c2 : w.cell? ⟨W, 2, none⟩ = some (.int .i64 P.length) := by rw [Lib.cell_of_heap hs.out.bW]; rfl
  have c3 : w.cell? ⟨W, 3, none⟩ = some (.iface 40 (.pointer (some ⟨S, 0, none⟩))) := by rw [Lib.cell_of_heap hs.out.bW]; rfl
  have hz : ((P.length : Int) == 0) = false := by cases P <;> simp at h0 ⊢ <;> omega
  have hl0 : (0 : Int) ≤ (P.length : Int) := Int.natCast_nonneg _
  have hl1 : (P.length : Int) ≤ 4096 := by have := hs.out.hP; omega
  have hme : ∀ W : World, (method 291 40 (.pointer (some ⟨S, 0, none⟩)) "Write").run Tryd.prog W = .ok (129, .pointer (some ⟨S, 0, none⟩)) W := fun W => by kernel_rfl
  go_enter Tryd.func29, Tryd.ntmps29
  go_wp2_with fail
  go_region_held3 (fun w' => w'.cell? ⟨W, 0, none⟩ = some .nilIface ∧ w'.cell? ⟨W, 1, none⟩ = some (.slice (some ⟨F, 0, none⟩) 4096 4096) ∧ w'.cell? ⟨W, 2, none⟩ = some (.int .i64 P.length) ∧ w'.cell? ⟨W, 3, none⟩ = some (.iface 40 (.pointer (some ⟨S, 0, none⟩)))) (first | exact hkeep | exact ⟨c0, c1, c2, c3⟩ | simp [go_sem]) ((go_at_call 129; refine (bwrite_any B S v T _ (Hid.lay (hs.out.bld.keep ((Kp.refl _ w).drew 1) (A := fun _ => False) (fun e => e) (fun _ _ e => e))) ⟨F, 0, none⟩ 4096 P (Hid.lay hs.out.news) hs.out.neSF hlim hbase).mono ?_; rintro e w2 ⟨rfl, v2, hb2, k2, blk2⟩; have HB := hs.out.behind hb2 k2; have hkeep := HB.out.1; have d0 := hkeep.1; have d2 := hkeep.2.2.1; have f2 := HB.out.2.1; replace HB2 := Hid.lay hb2; replace HK2 := Hid.lay k2; replace HL2 := Hid.lay blk2; clear hb2 k2 blk2))
  clear hkeep
  go_wp2_with fail
  go_ret
  refine ⟨rfl, v2, ⟨HB2.out.keep (Kp.set w2 W 2 _) (fun e => hs.out.neSW e.symm) (fun g hg e => ?_), ?_, ?_, by simp, ?_, fun e => ?_⟩, ?_, HL2.out⟩
  · subst e
    exact Lib.ownBlock_ne HB2.out.own HB.out.2.2.1 (by decide) hg
  · simp [World.setCell, Array.getElem?_modify, HB.out.2.2.1]
  · obtain ⟨cur, hc, hz, _⟩ := hs.out.bF
    exact ⟨cur, ((Kp.set w2 W 2 (.int .i64 0)).cells (HB.out.2.2.2.trans hc) (fun e => hs.out.neWF e.symm)), hz, by simp [Lib.byteCells]⟩
  · rcases HL2.out with e | ⟨g, e, hg⟩
    · rw [e]; exact hs.out.neF
    · rw [e]
      obtain ⟨cur, hc, _⟩ := hs.out.bF
      have := lt_of_cells hc
      simp at hg ⊢
      omega
  · exact absurd (List.append_eq_nil_iff.1 e).2 h0
  · exact Kp.drewn 1 ((HK2.out.mono (A := fun k => k = S ∨ k = W ∨ v.ownBlock = some k) (fun i _ e => e.elim .inl (fun e => .inr (.inr e)))).trans (Kp.set w2 W 2 _) (fun i _ e => .inr (.inl e)))

set_option maxHeartbeats 2000000 in
set_option maxRecDepth 100000 in
theorem flush_none (B S W F : Nat) (v : Value) (T : List UInt8) (w : World) (hs : Hid (Snk w B S W F v T [])) :
    Calls Tryd.prog 29 #[.pointer (some ⟨W, 0, none⟩)] w fun e w' => e = .returned .nilIface ∧ w' = w := by
  have c0 : w.cell? ⟨W, 0, none⟩ = some .nilIface := by rw [Lib.cell_of_heap hs.out.bW]; rfl
  have c2 : w.cell? ⟨W, 2, none⟩ = some (.int .i64 0) := by rw [Lib.cell_of_heap hs.out.bW]; rfl
  go_enter Tryd.func29, Tryd.ntmps29
  go_wp2_with fail
  go_ret
  exact ⟨rfl, rfl⟩

/-- (*bufio.Writer).Flush -/
theorem flush_any (B S W F : Nat) (v : Value) (T P : List UInt8) (w : World) (hs : Snk w B S W F v T P) (hlim : T.length + P.length ≤ 140737488355328) (hbase : B ≤ w.heap.size) :
    Calls Tryd.prog 29 #[.pointer (some ⟨W, 0, none⟩)] w fun e w' => e = .returned .nilIface ∧ ∃ v', Snk w' B S W F v' (T ++ P) [] ∧ Kp (fun k => k = S ∨ k = W ∨ v.ownBlock = some k) w w' ∧ (v'.ownBlock = v.ownBlock ∨ ∃ g, v'.ownBlock = some g ∧ w.heap.size ≤ g) := by
  by_cases h0 : P = []
  · subst h0
    refine (flush_none B S W F v T w hs).mono ?_
    rintro e w' ⟨rfl, rfl⟩
    exact ⟨rfl, v, by simpa using hs, Kp.refl _ _, .inl rfl⟩
  · exact flush_some B S W F v T P w h0 hs hlim hbase

theorem run_make4096 (w : World) : (Instr.makeSlice 26 (.int .i64 4096) (.int .i64 4096)).run Tryd.prog w = .ok (.slice (some ⟨w.heap.size, 0, none⟩) 4096 4096) (w.alloc (.cells (madeCells (Value.int .u8 0).cells 4096) 5)) := by
  obtain ⟨i0, hi, hz0, hz1, hz2⟩ := info_parts info5
  have h := run_make (P := Tryd.prog) w 26 5 i0 (.int .u8 0) Tryd.underlying26 hi hz0 .i64 .i64 4096 4096 (by decide) (by decide) (by rw [hz2]; decide) (by decide)
  rw [hz1] at h
  exact h

theorem snk_new (B S : Nat) (v : Value) (T : List UInt8) (w : World) (hb : Bld w B S v T) (hv : T = [] → v = .slice none 0 0) (M : Array Value) (hM : M.size = 4096) :
    Snk ((w.alloc (.cells M 5)).alloc (.cells #[.nilIface, .slice (some ⟨w.heap.size, 0, none⟩) 4096 4096, .int .i64 0, .iface 40 (.pointer (some ⟨S, 0, none⟩))] 74)) B S (w.heap.size + 1) w.heap.size v T [] := by
  have k : Kp (fun _ => False) w ((w.alloc (.cells M 5)).alloc (.cells #[.nilIface, .slice (some ⟨w.heap.size, 0, none⟩) 4096 4096, .int .i64 0, .iface 40 (.pointer (some ⟨S, 0, none⟩))] 74)) :=
    (Kp.alloc w _).trans (Kp.alloc _ _) (fun _ _ e => e)
  refine ⟨hb.keep k (fun e => e) (fun _ _ e => e), ?_, ⟨M, ?_, hM, by simp [Lib.byteCells]⟩, by simp, ?_, hv⟩
  · show ((w.heap.push _).push _)[w.heap.size + 1]? = _
    rw [Array.getElem?_push, if_pos (by simp)]
    rfl
  · show ((w.heap.push _).push _)[w.heap.size]? = _
    simp [Array.getElem?_push]
  · intro e
    have := (hb.own.lt _ e).2
    omega

set_option maxHeartbeats 2000000 in
set_option maxRecDepth 100000 in
theorem newsize_any (S : Nat) (w : World) :
    Calls Tryd.prog 32 #[.iface 40 (.pointer (some ⟨S, 0, none⟩)), .int .i64 4096] w fun e w' => e = .returned (.pointer (some ⟨w.heap.size + 1, 0, none⟩)) ∧
      w' = (w.alloc (.cells (madeCells (Value.int .u8 0).cells 4096) 5)).alloc (.cells #[.nilIface, .slice (some ⟨w.heap.size, 0, none⟩) 4096 4096, .int .i64 0, .iface 40 (.pointer (some ⟨S, 0, none⟩))] 74) := by
  have hta : ∀ W : World, (Instr.typeAssert (.iface 40 (.pointer (some ⟨S, 0, none⟩))) 58 59 true).run Tryd.prog W = .ok (.tuple #[.pointer none, .bool false]) W := fun W => by kernel_rfl
  have hmk := run_make4096
  generalize madeCells (Value.int .u8 0).cells 4096 = M at hmk
  go_enter Tryd.func32, Tryd.ntmps32
  go_wp2_with fail
  go_ret
  exact ⟨rfl, rfl⟩

set_option maxHeartbeats 2000000 in
set_option maxRecDepth 100000 in
theorem newwriter_any (B S : Nat) (v : Value) (T : List UInt8) (w : World) (hb : Hid (Bld w B S v T)) (hv : T = [] → v = .slice none 0 0) :
    Calls Tryd.prog 23 #[.iface 40 (.pointer (some ⟨S, 0, none⟩))] w fun e w' => e = .returned (.pointer (some ⟨w.heap.size + 1, 0, none⟩)) ∧ Snk w' B S (w.heap.size + 1) w.heap.size v T [] ∧ Kp (fun _ => False) w w' := by
  go_enter Tryd.func23, Tryd.ntmps23
  go_wp2_with fail
  refine (newsize_any S w).mono ?_
  rintro e w' ⟨rfl, hw⟩
  have HW := Hid.lay hw
  clear hw
  go_wp2_with fail
  go_ret
  rw [HW.out]
  exact ⟨rfl, snk_new B S v T w hb.out hv _ (size_madeCells _ _), (Kp.alloc w _).trans (Kp.alloc _ _) (fun _ _ e => e)⟩

set_option maxHeartbeats 2000000 in
set_option maxRecDepth 100000 in
theorem avail_any (W F : Nat) (n : Nat) (w : World) (hn : n ≤ 4096) (c1 : w.cell? ⟨W, 1, none⟩ = some (.slice (some ⟨F, 0, none⟩) 4096 4096)) (c2 : w.cell? ⟨W, 2, none⟩ = some (.int .i64 n)) :
    Calls Tryd.prog 35 #[.pointer (some ⟨W, 0, none⟩)] w fun e w' => e = .returned (.int .i64 (4096 - n : Int)) ∧ ∃ k, w' = w.drewN k := by
  have hw : IntKind.i64.wrap (4096 - (n : Int)) = 4096 - n := by rw [IntKind.wrap_i64]; omega
  go_enter Tryd.func35, Tryd.ntmps35
  go_wp2_with fail
  go_quiet (fail)
  go_wp2_with fail
  go_ret
  exact ⟨rfl, _, rfl⟩
end Go.Proofs.Qxb6609202aDoor.Wr
