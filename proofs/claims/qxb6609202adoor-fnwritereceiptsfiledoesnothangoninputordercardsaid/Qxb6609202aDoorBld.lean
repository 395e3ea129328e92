/-
  (*strings.Builder): copyCheck (130), Write (129), String (20).
-/
import Derived.Test.Qxb6609202aDoorLibInt
import Derived.Lib.Builder
import Derived.Lib.Walk
import Derived.Laws.Externs
namespace Go.Proofs.Qxb6609202aDoor.Wr
open Go.RowKit

/-- w' is w with new blocks, and with writes to the blocks of A alone -/
structure Kp (A : Nat → Prop) (w w' : World) : Prop where
  os : w'.os = w.os
  tape : w'.tape = w.tape
  output : w'.output = w.output
  size : w.heap.size ≤ w'.heap.size
  block : ∀ k, k < w.heap.size → ¬ A k → w'.heap[k]? = w.heap[k]?

theorem Kp.refl (A : Nat → Prop) (w : World) : Kp A w w := ⟨rfl, rfl, rfl, Nat.le_refl _, fun _ _ _ => rfl⟩
theorem Kp.trans {A A1 : Nat → Prop} {a b c : World} (h : Kp A a b) (k : Kp A1 b c) (hA : ∀ i, i < a.heap.size → A1 i → A i) : Kp A a c :=
  ⟨k.os.trans h.os, k.tape.trans h.tape, k.output.trans h.output, Nat.le_trans h.size k.size, fun i hi hne => (k.block i (Nat.lt_of_lt_of_le hi h.size) (fun e => hne (hA i hi e))).trans (h.block i hi hne)⟩
theorem Kp.mono {A A1 : Nat → Prop} {a b : World} (h : Kp A1 a b) (hA : ∀ i, i < a.heap.size → A1 i → A i) : Kp A a b :=
  ⟨h.os, h.tape, h.output, h.size, fun i hi hne => h.block i hi (fun e => hne (hA i hi e))⟩
theorem Kp.of_grown {w w' : World} {row : Option Nat} (h : w.grownBy w' row) : Kp (fun k => some k = row) w w' := ⟨h.os, h.tape, h.output, h.size, h.block⟩
theorem Kp.set (w : World) (b o : Nat) (v : Value) : Kp (fun k => k = b) w (w.setCell ⟨b, o, none⟩ v) :=
  ⟨rfl, rfl, rfl, by simp, fun k _ hne => Below.heap_setCell w ⟨b, o, none⟩ v k hne⟩
theorem Kp.drew {A : Nat → Prop} {w w' : World} (h : Kp A w w') (n : Nat) : Kp A w (w'.drewN n) := ⟨h.os, h.tape, h.output, h.size, h.block⟩
theorem Kp.cell {A : Nat → Prop} {w w' : World} (h : Kp A w w') {a : Addr} {v : Value} (hc : w.cell? a = some v) (hne : ¬ A a.block) : w'.cell? a = some v :=
  (World.cell?_of_block (h.block a.block (World.block_lt_of_cell? w a hc) hne)).trans hc
theorem Kp.frozen {A : Nat → Prop} {w w' : World} (h : Kp A w w') {a : Addr} (hlt : a.block < w.heap.size) (hne : ¬ A a.block) : w'.frozen? a = w.frozen? a :=
  World.frozen?_of_block (h.block a.block hlt hne)


theorem Kp.cells {A : Nat → Prop} {w w' : World} (h : Kp A w w') {b : Nat} {cs : Array Value} {T : TypeId} {fr : Nat × Nat} (hb : w.heap[b]? = some (.cells cs T fr)) (hne : ¬ A b) : w'.heap[b]? = some (.cells cs T fr) := by
  have hlt : b < w.heap.size := by
    rcases Nat.lt_or_ge b w.heap.size with h' | h'
    · exact h'
    · simp [Array.getElem?_eq_none h'] at hb
  exact (h.block b hlt hne).trans hb
theorem lt_of_cells {w : World} {b : Nat} {cs : Array Value} {T : TypeId} {fr : Nat × Nat} (hb : w.heap[b]? = some (.cells cs T fr)) : b < w.heap.size := by
  rcases Nat.lt_or_ge b w.heap.size with h' | h'
  · exact h'
  · simp [Array.getElem?_eq_none h'] at hb
theorem Kp.owns {A : Nat → Prop} {w w' : World} (h : Kp A w w') {B n : Nat} {t : TypeId} {v : Value} {xs : List Value} (ho : w.ownsRow B t 1 v n xs) (hne : ∀ g, v.ownBlock = some g → ¬ A g) : w'.ownsRow B t 1 v n xs := by
  refine ⟨ho.1, ?_⟩
  rcases ho.2 with h0 | ⟨g, cap, cur, rfl, hbg, hh, hrest⟩
  · exact .inl h0
  · exact .inr ⟨g, cap, cur, rfl, hbg, h.cells hh (hne g rfl), hrest⟩

theorem add_block (a : Addr) (j : Nat) : (a.add j).block = a.block := by
  unfold Addr.add; split <;> rfl
/-- the Builder at block S holds the text T, in a row of its own -/
structure Bld (w : World) (B S : Nat) (v : Value) (T : List UInt8) : Prop where
  bS : ∃ q, w.heap[S]? = some (.cells #[.pointer q, v] 42 (0, 0)) ∧ (q = none ∨ q = some ⟨S, 0, none⟩)
  own : w.ownsRow B 5 1 v T.length (Lib.byteCells T)

theorem Bld.ne {w : World} {B S : Nat} {v : Value} {T : List UInt8} (h : Bld w B S v T) : v.ownBlock ≠ some S := by
  obtain ⟨q, hb, _⟩ := h.bS
  exact Lib.ownBlock_ne h.own hb (by decide)
theorem Bld.keep {A : Nat → Prop} {w w' : World} {B S : Nat} {v : Value} {T : List UInt8} (h : Bld w B S v T) (k : Kp A w w') (hS : ¬ A S) (hv : ∀ g, v.ownBlock = some g → ¬ A g) : Bld w' B S v T := by
  obtain ⟨q, hb, hq⟩ := h.bS
  exact ⟨⟨q, k.cells hb hS, hq⟩, k.owns h.own hv⟩

theorem size42 : (Tryd.prog.info? 42).map (fun i => i.size) = some 2 := by kernel_rfl

set_option maxHeartbeats 1000000 in
set_option maxRecDepth 100000 in
theorem copyCheck_fresh (S : Nat) (w : World) (h : w.cell? ⟨S, 0, none⟩ = some (.pointer none)) (hsh : w.shape? S = some (42, 2)) (hfz : w.frozen? ⟨S, 0, none⟩ = false) :
    Calls Tryd.prog 130 #[.pointer (some ⟨S, 0, none⟩)] w fun e w' => e = .returned (.tuple #[]) ∧ w' = w.setCell ⟨S, 0, none⟩ (.pointer (some ⟨S, 0, none⟩)) :=
  Any.Builder_copyCheck_fresh Tryd.lays240 Tryd.Builder_X72_240 S w h hsh hfz
set_option maxHeartbeats 1000000 in
set_option maxRecDepth 100000 in
theorem copyCheck_self (S : Nat) (w : World) (h : w.cell? ⟨S, 0, none⟩ = some (.pointer (some ⟨S, 0, none⟩))) :
    Calls Tryd.prog 130 #[.pointer (some ⟨S, 0, none⟩)] w fun e w' => e = .returned (.tuple #[]) ∧ w' = w := by
  obtain ⟨j, hj, hjs⟩ := Option.map_eq_some_iff.1 size42
  go_enter Tryd.func130, Tryd.ntmps130
  go_wp2_with fail
  rw [Lib.run_neq_ptr_same w _ Tryd.underlying40 hj]
  go_wp2_with fail
  go_end0
  exact ⟨rfl, rfl⟩

theorem Bld.used {w : World} {B S : Nat} {v : Value} {T : List UInt8} (h : Bld w B S v T) : Bld (w.setCell ⟨S, 0, none⟩ (.pointer (some ⟨S, 0, none⟩))) B S v T := by
  obtain ⟨q, hb, hq⟩ := h.bS
  refine ⟨⟨some ⟨S, 0, none⟩, ?_, .inr rfl⟩, (Kp.set w S 0 _).owns h.own ?_⟩
  · simp [World.setCell, Array.getElem?_modify, hb]
  · intro g hg e
    subst e
    exact h.ne hg

theorem copyCheck_any (B S : Nat) (v : Value) (T : List UInt8) (w : World) (h : Bld w B S v T) :
    Calls Tryd.prog 130 #[.pointer (some ⟨S, 0, none⟩)] w fun e w' => e = .returned (.tuple #[]) ∧ Bld w' B S v T ∧ Kp (fun k => k = S) w w' := by
  obtain ⟨q, hb, rfl | rfl⟩ := h.bS
  · refine (copyCheck_fresh S w (by rw [Lib.cell_of_heap hb]; rfl) (by simp [World.shape?, hb]) (Lib.frozen_of_heap hb 0)).mono ?_
    rintro e w' ⟨rfl, rfl⟩
    exact ⟨rfl, h.used, Kp.set _ _ _ _⟩
  · refine (copyCheck_self S w (by rw [Lib.cell_of_heap hb]; rfl)).mono ?_
    rintro e w' ⟨rfl, rfl⟩
    exact ⟨rfl, h, Kp.refl _ _⟩

theorem Hid.lay {p : Prop} (h : p) : Hid p := h
theorem own_slice {w : World} {B n : Nat} {t : TypeId} {v : Value} {xs : List Value} (h : w.ownsRow B t 1 v n xs) : ∃ p c, v = .slice p n c := by
  rcases h.2 with ⟨rfl, rfl⟩ | ⟨g, cap, cur, rfl, _⟩
  · exact ⟨_, _, rfl⟩
  · exact ⟨_, _, rfl⟩
theorem put_facts {w1 w2 : World} {S B : Nat} {q : Option Addr} {v v' : Value} {T : List UInt8} (h : w1.heap[S]? = some (.cells #[.pointer q, v] 42 (0, 0))) (hb : Bld w1 B S v T) (hfr : Fr v v' w1 w2) :
    Hid (w2.cell? ⟨S, 1, none⟩ = some v ∧ w2.frozen? ⟨S, 1, none⟩ = false ∧ w2.heap[S]? = some (.cells #[.pointer q, v] 42 (0, 0))) := by
  have h2 := (Kp.of_grown hfr.grown).cells h (fun e => hb.ne e.symm)
  exact ⟨by rw [Lib.cell_of_heap h2]; rfl, Lib.frozen_of_heap h2 1, h2⟩

set_option maxHeartbeats 2000000 in
set_option maxRecDepth 100000 in
/-- (*strings.Builder).Write at a row of bytes -/
theorem bwrite_any (B S : Nat) (v : Value) (T : List UInt8) (w : World) (hbd : Hid (Bld w B S v T)) (ad : Addr) (c : Nat) (N : List UInt8)
    (hnews : Hid (∀ j u, (Lib.byteCells N)[j]? = some u → w.cell? (ad.add j) = some u)) (hne : ad.block ≠ S) (hlim : T.length + N.length ≤ 140737488355328) (hbase : B ≤ w.heap.size) :
    Calls Tryd.prog 129 #[.pointer (some ⟨S, 0, none⟩), .slice (some ad) N.length c] w fun e w' => e = .returned (.tuple #[.int .i64 N.length, .nilIface]) ∧
      ∃ v', Bld w' B S v' (T ++ N) ∧ Kp (fun k => k = S ∨ v.ownBlock = some k) w w' ∧ (v'.ownBlock = v.ownBlock ∨ ∃ g, v'.ownBlock = some g ∧ w.heap.size ≤ g) := by
  go_enter Tryd.func129, Tryd.ntmps129
  go_wp2_with fail
  refine (copyCheck_any B S v T w hbd.out).mono ?_
  rintro e w1 ⟨rfl, hb1, k1⟩
  have hB1 : Hid (Bld w1 B S v T) := hb1
  obtain ⟨q, hS, hq⟩ := hb1.bS
  have c1 : w1.cell? ⟨S, 1, none⟩ = some v := by rw [Lib.cell_of_heap hS]; rfl
  have K1 : Hid (Kp (fun k => k = S) w w1) := k1
  have HS : Hid (w1.heap[S]? = some (.cells #[.pointer q, v] 42 (0, 0))) := hS
  have HQ : Hid (q = none ∨ q = some ⟨S, 0, none⟩) := hq
  have hn1 : Hid (∀ j u, (Lib.byteCells N)[j]? = some u → w1.cell? (ad.add j) = some u) := fun j u hj => K1.out.cell (hnews.out j u hj) (by rw [add_block]; exact hne)
  have hbase1 : B ≤ w1.heap.size := Nat.le_trans hbase K1.out.size
  clear hb1 k1 hS hq hnews hbd
  go_wp2_with ((at_builtin; refine wp_ap rfl (.tmp 12) (.tmp 13) rfl B T.length v (Lib.byteCells T) rfl hB1.out.own ad N.length c (Lib.byteCells N) rfl (Lib.byteCells_length N) hn1.out (oneB _) hlim hbase1 ?_; intro v2 w2 ho hfr; obtain ⟨pp, cp, rfl⟩ := own_slice ho; have HS2 := put_facts HS.out hB1.out hfr; have c2 := HS2.out.1; have f2 := HS2.out.2.1; replace HO := Hid.lay ho; replace HF := Hid.lay hfr; clear ho hfr c1))
  go_ret2
  refine ⟨rfl, .slice pp (T.length + N.length) cp, ?_, ?_, ?_⟩
  · have hS2 := HS2.out.2.2
    have hne' := Lib.ownBlock_ne HO.out hS2 (by decide)
    refine ⟨⟨q, ?_, HQ.out⟩, (Kp.set w2 S 1 _).owns ?_ ?_⟩
    · simp [World.setCell, Array.getElem?_modify, hS2]
    · rw [List.length_append, show Lib.byteCells (T ++ N) = Lib.byteCells T ++ Lib.byteCells N by simp [Lib.byteCells]]
      exact HO.out
    · intro g hg e
      subst e
      exact hne' hg
  · refine Kp.trans (A1 := fun k => k = S ∨ v.ownBlock = some k) (K1.out.mono fun i _ e => .inl e) (Kp.trans (A1 := fun k => k = S) ((Kp.of_grown HF.out.grown).mono fun i _ e => .inr e.symm) (Kp.set w2 S 1 _) fun i _ e => .inl e) fun i _ e => e
  · rcases HF.out.blk with e | ⟨g, e, hg⟩
    · exact .inl e
    · exact .inr ⟨g, e, Nat.le_trans K1.out.size hg⟩

/-- (*strings.Builder).String: whatever lies below B0, and whatever is no row of bytes and not the Builder, stands -/
theorem bstring_any (B B0 S : Nat) (v : Value) (T : List UInt8) (w : World) (h : Bld w B S v T) (hS : B0 ≤ S) (hv : ∀ g, v.ownBlock = some g → B0 ≤ g) (hB0 : B0 ≤ w.heap.size) :
    Calls Tryd.prog 20 #[.pointer (some ⟨S, 0, none⟩)] w fun e w' => e = .returned (.string ⟨T.toArray⟩) ∧ Below B0 w w' ∧ Lib.OthersKept 5 (some S) w w' := by
  obtain ⟨q, hb, hq⟩ := h.bS
  have own : w.ownsRow B0 5 1 v (Lib.byteCells T).length (Lib.byteCells T) := by
    rw [Lib.byteCells_length]
    refine ⟨h.own.1, ?_⟩
    rcases h.own.2 with h0 | ⟨g, cap, cur, rfl, hbg, hr⟩
    · exact .inl h0
    · exact .inr ⟨g, cap, cur, rfl, hv g rfl, hr⟩
  have hA : Lib.BuilderAtF 42 5 B0 S (.pointer q) (Lib.byteCells T) w := Lib.BuilderAtF.of ⟨hS, v, hb, own, h.ne⟩
  have hI : Lib.IsBuilderF 42 5 B0 S (Lib.byteCells T) w := by
    rcases hq with rfl | rfl
    · exact .inl hA
    · exact .inr hA
  refine (Any.Builder_String_any_k Tryd.lays169 Tryd.Builder_Extra_169 B0 S T w hI hB0).mono ?_
  rintro e w' ⟨he, _, hbel, hoth⟩
  exact ⟨he, hbel, hoth⟩
end Go.Proofs.Qxb6609202aDoor.Wr
