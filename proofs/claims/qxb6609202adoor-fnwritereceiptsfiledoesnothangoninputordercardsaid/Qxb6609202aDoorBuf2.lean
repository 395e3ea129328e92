/-
  (*bufio.Writer).Write (28), at a text no longer than the buffer.
-/
import Derived.Test.Qxb6609202aDoorBuf
import Derived.Laws.CopyRow
import Derived.Laws.IdiomCopy
namespace Go.Proofs.Qxb6609202aDoor.Wr
open Go.RowKit

theorem size5 : (Tryd.prog.info? 5).map (fun i => i.size) = some 1 := by kernel_rfl

theorem buf_slice (F n : Nat) (hn : n ≤ 4096) (W : World) :
    (Instr.sliceAt 26 (.slice (some ⟨F, 0, none⟩) 4096 4096) (some (.int .i64 (n : Int))) none none).run Tryd.prog W = .ok (.slice (some (if n = 4096 then ⟨F, 0, none⟩ else ⟨F, n, none⟩)) (4096 - n) (4096 - n)) W := by
  by_cases h : n = 4096
  · subst h
    simp [go_sem, Instr.sliceAt, Instr.slice]
  · have h3 : (n : Int) ≤ 4096 := by omega
    have h4 : ¬ 4096 = n := by omega
    simp [go_sem, Instr.sliceAt, Instr.slice, h, h3, h4]

theorem Kp.setRow (w : World) (b : Nat) (c : Array Value) : Kp (fun k => k = b) w (w.setRow b c) := by
  refine ⟨rfl, rfl, rfl, by simp [World.setRow], fun k _ hne => ?_⟩
  simp [World.setRow, Array.getElem?_modify, Ne.symm hne]

theorem buf_copy (F n c : Nat) (hn : n ≤ 4096) (W : World) (cur : Array Value) (hF : W.heap[F]? = some (.cells cur 5 (0, 0))) (hs : cur.size = 4096) (ad : Addr) (N : List UInt8)
    (hnews : ∀ j u, (Lib.byteCells N)[j]? = some u → W.cell? (ad.add j) = some u) :
    ∃ W' cur', (Builtin.copy_ #[26, 26] 3 #[.slice (some (if n = 4096 then ⟨F, 0, none⟩ else ⟨F, n, none⟩)) (4096 - n) (4096 - n), .slice (some ad) N.length c]).run Tryd.prog W = .ok (.int .i64 ((min N.length (4096 - n) : Nat) : Int)) W' ∧
      W'.heap[F]? = some (.cells cur' 5 (0, 0)) ∧ cur'.size = 4096 ∧ cur'.toList.take (n + min N.length (4096 - n)) = cur.toList.take n ++ Lib.byteCells (N.take (4096 - n)) ∧ Kp (fun k => k = F) W W' := by
  by_cases h : n = 4096
  · subst h
    refine ⟨W, cur, ?_, hF, hs, ?_, Kp.refl _ _⟩
    · rw [if_pos rfl, run_copy_none W 26 26 3 5 _ _ _ _ _ _ Tryd.underlying26 size5 (by simp)]
      simp [goInt]
    · simp [Lib.byteCells]
  · have hl : (Lib.byteCells (N.take (4096 - n))).length = Nat.min N.length (4096 - n) := by
      rw [Lib.byteCells_length, List.length_take, Nat.min_comm]
    have hsrc : ∀ j v, (Lib.byteCells (N.take (4096 - n)))[j]? = some v → W.cell? (ad.add j) = some v := by
      intro j v hj
      refine hnews j v ?_
      have hj2 : (List.take (4096 - n) (Lib.byteCells N))[j]? = some v := by simpa [Lib.byteCells, List.map_take] using hj
      rw [List.getElem?_take] at hj2
      split at hj2
      · exact hj2
      · cases hj2
    have hr := run_copy_row (P := Tryd.prog) W 26 26 3 5 F n (4096 - n) (4096 - n) ad N.length c cur 5 _ Tryd.underlying26 size5 hF hl hsrc (by rw [hl, hs]; have : Nat.min N.length (4096 - n) ≤ 4096 - n := Nat.min_le_right _ _; omega) (oneB _)
    have h5 : cur.toList.length = 4096 := by simpa using hs
    have hl' : (Lib.byteCells (N.take (4096 - n))).length = min N.length (4096 - n) := hl
    generalize hX : Lib.byteCells (N.take (4096 - n)) = X at *
    refine ⟨W.setRow F (cur.toList.take n ++ X ++ cur.toList.drop (n + X.length)).toArray, (cur.toList.take n ++ X ++ cur.toList.drop (n + X.length)).toArray, ?_, ?_, ?_, ?_, Kp.setRow _ _ _⟩
    · rw [if_neg h, hr, hl']
      rfl
    · simp [World.setRow, Array.getElem?_modify, hF]
    · simp [h5]
      omega
    · have h6 : (cur.toList.take n ++ X).length = n + min N.length (4096 - n) := by simp [h5]; omega
      rw [← h6]
      exact List.take_left' rfl

theorem Snk.put {w W' : World} {B S W F : Nat} {v : Value} {T P Q : List UInt8} (h : Snk w B S W F v T P) (k : Kp (fun k => k = F) w W') (cur' : Array Value) (hF : W'.heap[F]? = some (.cells cur' 5 (0, 0))) (hsz : cur'.size = 4096)
    (hlen : P.length + Q.length ≤ 4096) (ht : cur'.toList.take (P.length + Q.length) = Lib.byteCells P ++ Lib.byteCells Q) :
    Snk (W'.setCell ⟨W, 2, none⟩ (.int .i64 ((P.length : Int) + Q.length))) B S W F v T (P ++ Q) := by
  have hW := k.cells h.bW h.neWF
  have hb := h.bld.keep k (fun e => h.neSF e.symm) (fun g hg e => h.neF (by rw [hg, e]))
  refine ⟨hb.keep (Kp.set W' W 2 _) (fun e => h.neSW e.symm) (fun g hg e => h.neW (by rw [hg, e])), ?_, ⟨cur', (Kp.set W' W 2 _).cells hF (fun e => h.neWF e.symm), hsz, ?_⟩, by simpa using hlen, h.neF, h.hnil⟩
  · simp [World.setCell, Array.getElem?_modify, hW]
  · rw [List.length_append, ht]
    simp [Lib.byteCells]

/-- where a Write stands -/
structure St (w wr : World) (B S W F : Nat) (v v' : Value) (T P T' P' N : List UInt8) (k : Nat) : Prop where
  snk : Snk wr B S W F v' T' P'
  eq : T' ++ P' = T ++ P ++ N.take k
  kn : k ≤ N.length
  kp : k = 0 ∨ P' = []
  fr : Kp (fun k => k = S ∨ k = W ∨ k = F ∨ v.ownBlock = some k) w wr
  blk : v'.ownBlock = v.ownBlock ∨ ∃ g, v'.ownBlock = some g ∧ w.heap.size ≤ g

theorem St.W0 {w wr : World} {B S W F : Nat} {v v' : Value} {T P T' P' N : List UInt8} {k : Nat} (h : St w wr B S W F v v' T P T' P' N k) :
    wr.cell? ⟨W, 0, none⟩ = some .nilIface ∧ wr.cell? ⟨W, 1, none⟩ = some (.slice (some ⟨F, 0, none⟩) 4096 4096) ∧ wr.cell? ⟨W, 2, none⟩ = some (.int .i64 P'.length) ∧ wr.frozen? ⟨W, 2, none⟩ = false := by
  have hW := h.snk.bW
  exact ⟨by rw [Lib.cell_of_heap hW]; rfl, by rw [Lib.cell_of_heap hW]; rfl, by rw [Lib.cell_of_heap hW]; rfl, Lib.frozen_of_heap hW 2⟩

set_option maxHeartbeats 2000000 in
set_option maxRecDepth 100000 in
theorem buffered_any (W : Nat) (n : Nat) (w : World) (c2 : w.cell? ⟨W, 2, none⟩ = some (.int .i64 n)) :
    Calls Tryd.prog 36 #[.pointer (some ⟨W, 0, none⟩)] w fun e w' => e = .returned (.int .i64 n) ∧ w' = w := by
  go_enter Tryd.func36, Tryd.ntmps36
  go_wp2_with fail
  go_ret
  exact ⟨rfl, rfl⟩

theorem St.drew {w wr : World} {B S W F : Nat} {v v' : Value} {T P T' P' N : List UInt8} {k : Nat} (h : St w wr B S W F v v' T P T' P' N k) (n : Nat) : St w (wr.drewN n) B S W F v v' T P T' P' N k :=
  ⟨⟨h.snk.bld.keep ((Kp.refl (fun _ => False) wr).drew n) (fun e => e) (fun _ _ e => e), h.snk.bW, h.snk.bF, h.snk.hP, h.snk.neF, h.snk.hnil⟩, h.eq, h.kn, h.kp, h.fr.drew n, h.blk⟩

theorem St.bufs {w wr : World} {B S W F : Nat} {v v' : Value} {T P T' P' N : List UInt8} {k : Nat} (h : St w wr B S W F v v' T P T' P' N k) (G c : Nat)
    (hnews : ∀ j u, (Lib.byteCells N)[j]? = some u → w.cell? ⟨G, j, none⟩ = some u) (hG : ¬ (G = S ∨ G = W ∨ G = F ∨ v.ownBlock = some G)) :
    ∃ W', (Builtin.copy_ #[26, 26] 3 #[.slice (some (if P'.length = 4096 then ⟨F, 0, none⟩ else ⟨F, P'.length, none⟩)) (4096 - P'.length) (4096 - P'.length), .slice (some ⟨G, k, none⟩) (N.length - k) (c - k)]).run Tryd.prog wr.drew = .ok (.int .i64 ((min (N.length - k) (4096 - P'.length) : Nat) : Int)) W' ∧
      (W'.cell? ⟨W, 0, none⟩ = some .nilIface ∧ W'.cell? ⟨W, 1, none⟩ = some (.slice (some ⟨F, 0, none⟩) 4096 4096) ∧ W'.cell? ⟨W, 2, none⟩ = some (.int .i64 P'.length)) ∧ W'.frozen? ⟨W, 2, none⟩ = false ∧
      Hid (Snk (W'.setCell ⟨W, 2, none⟩ (.int .i64 ((P'.length : Int) + (min (N.length - k) (4096 - P'.length) : Nat)))) B S W F v' T' (P' ++ (N.drop k).take (4096 - P'.length)) ∧
        Kp (fun k => k = S ∨ k = W ∨ k = F ∨ v.ownBlock = some k) w (W'.setCell ⟨W, 2, none⟩ (.int .i64 ((P'.length : Int) + (min (N.length - k) (4096 - P'.length) : Nat))))) := by
  obtain ⟨cur, hF, hsz, htk⟩ := h.snk.bF
  have hd := (h.drew 1)
  obtain ⟨W', cur', hcp, hF', hsz', htk', kF⟩ := buf_copy F P'.length (c - k) h.snk.hP wr.drew cur hF hsz ⟨G, k, none⟩ (N.drop k) (by
    intro j u hj
    have hj' : (Lib.byteCells N)[k + j]? = some u := by
      rw [← hj]; simp [Lib.byteCells, List.getElem?_drop]
    have h2 := hd.fr.cell (hnews _ _ hj') hG
    have e : (⟨G, k, none⟩ : Addr).add j = ⟨G, k + j, none⟩ := by unfold Addr.add; split <;> simp_all
    rw [e]
    exact h2)
  rw [List.length_drop] at hcp htk'
  have hl : ((N.drop k).take (4096 - P'.length)).length = min (N.length - k) (4096 - P'.length) := by simp [Nat.min_comm]
  have hW := kF.cells (w := wr.drew) hd.snk.bW h.snk.neWF
  refine ⟨W', hcp, ⟨by rw [Lib.cell_of_heap hW]; rfl, by rw [Lib.cell_of_heap hW]; rfl, by rw [Lib.cell_of_heap hW]; rfl⟩, Lib.frozen_of_heap hW 2, ?_, ?_⟩
  · rw [← hl]
    refine hd.snk.put (w := wr.drewN 1) kF cur' hF' hsz' ?_ ?_
    · have := h.snk.hP; rw [hl]; omega
    · rw [hl, htk', htk]
  · refine ((hd.fr.trans kF (fun i _ e => .inr (.inr (.inl e)))).trans (Kp.set W' W 2 _) (fun i _ e => .inr (.inl e)))

theorem St.next {w wr W3 w3 : World} {B S W F : Nat} {v v' v3 : Value} {T P T' P' N : List UInt8} {m : Nat} (h : St w wr B S W F v v' T P T' P' N 0)
    (k2 : Kp (fun k => k = S ∨ k = W ∨ k = F ∨ v.ownBlock = some k) w W3) (hs3 : Snk w3 B S W F v3 (T' ++ (P' ++ List.take m (List.drop 0 N))) []) (k3 : Kp (fun k => k = S ∨ k = W ∨ v'.ownBlock = some k) W3 w3)
    (b3 : v3.ownBlock = v'.ownBlock ∨ ∃ g, v3.ownBlock = some g ∧ W3.heap.size ≤ g) (hm : m ≤ N.length) : St w w3 B S W F v v3 T P (T' ++ (P' ++ List.take m (List.drop 0 N))) [] N m := by
  refine ⟨hs3, ?_, hm, .inr rfl, k2.trans k3 ?_, ?_⟩
  · have := h.eq
    simp at this ⊢
    rw [← List.append_assoc, this]
    simp
  · intro i hi e
    rcases e with e | e | e
    · exact .inl e
    · exact .inr (.inl e)
    · rcases h.blk with hb | ⟨g, hg, hl⟩
      · exact .inr (.inr (.inr (hb ▸ e)))
      · rw [hg] at e
        cases e
        omega
  · rcases b3 with e | ⟨g, e, hg⟩
    · rw [e]; exact h.blk
    · exact .inr ⟨g, e, Nat.le_trans k2.size hg⟩

set_option maxHeartbeats 4000000 in
set_option maxRecDepth 100000 in
/-- (*bufio.Writer).Write at a text that the buffer holds -/
theorem wwrite_any (B S W F G c : Nat) (v : Value) (T P N : List UInt8) (w : World) (hs : Hid (Snk w B S W F v T P)) (hN : N.length ≤ 4096) (hNc : N.length ≤ c)
    (hnews : Hid (∀ j u, (Lib.byteCells N)[j]? = some u → w.cell? ⟨G, j, none⟩ = some u)) (hG : Hid (¬ (G = S ∨ G = W ∨ G = F ∨ v.ownBlock = some G))) (hlim : T.length + P.length + N.length ≤ 140737488355328) (hbase : B ≤ w.heap.size) :
    Calls Tryd.prog 28 #[.pointer (some ⟨W, 0, none⟩), .slice (some ⟨G, 0, none⟩) N.length c] w fun e w' => e = .returned (.tuple #[.int .i64 N.length, .nilIface]) ∧
      ∃ v' T' P', Snk w' B S W F v' T' P' ∧ T' ++ P' = T ++ P ++ N ∧ Kp (fun k => k = S ∨ k = W ∨ k = F ∨ v.ownBlock = some k) w w' ∧ (v'.ownBlock = v.ownBlock ∨ ∃ g, v'.ownBlock = some g ∧ w.heap.size ≤ g) := by
  go_enter Tryd.func28, Tryd.ntmps28
  go_wp2_with fail
  go_loopw [1, 4] (fun p nn wr => ∃ (k : Nat) (v' : Value) (T' P' : List UInt8), p = .slice (some ⟨G, k, none⟩) (N.length - k) (c - k) ∧ nn = .int .i64 k ∧ Hid (St w wr B S W F v v' T P T' P' N k)) (fun _ _ wr => (intOf ((wr.cell? ⟨W, 2, none⟩).getD .nilIface)).toNat)
  case atStart => exact ⟨0, v, T, P, rfl, rfl, hs.out, by simp, by simp, .inl rfl, Kp.refl _ _, .inl rfl⟩
  case round =>
    obtain ⟨k, v1, T1, P1, rfl, rfl, HS⟩ := hrel
    obtain ⟨c0, c1, c2, f2⟩ := HS.out.W0
    have hP1 := HS.out.snk.hP
    have hkn := HS.out.kn
    by_cases hgo : N.length - k > 4096 - P1.length
    · have hgo' : (decide (((N.length - k : Nat) : Int) > 4096 - (P1.length : Int))) = true := by simp; omega
      have hk0 : k = 0 := by
        rcases HS.out.kp with e | e
        · exact e
        · subst e; simp at hgo; omega
      subst hk0
      rw [Nat.sub_zero] at hgo
      rw [Nat.sub_zero] at hgo'
      obtain ⟨m, hm⟩ : ∃ m, P1.length + m = 4096 := ⟨4096 - P1.length, by omega⟩
      have hm4 : 4096 - P1.length = m := by omega
      go_wp2_with (go_at_call 35; refine (avail_any W F P1.length _ hP1 c1 c2).mono ?_; rintro e wx ⟨rfl, nd, hwx⟩; replace HX : Hid (St w wx B S W F v v1 T P T1 P1 N 0) := Hid.lay (by rw [hwx]; exact HS.out.drew nd); clear hwx c0 c1 c2 f2; obtain ⟨c0, c1, c2, f2⟩ := HX.out.W0)
      have hb0 : ((P1.length : Int) == 0) = false := by rw [beq_eq_false_iff_ne]; omega
      refine (buffered_any W P1.length wx c2).mono ?_
      rintro e wy ⟨rfl, hy⟩
      rw [hy]
      clear hy wy
      obtain ⟨W', hcp, hd, hfz, HP⟩ := HX.out.bufs G c hnews.out hG.out
      have hsl := buf_slice F P1.length hP1
      generalize (if P1.length = 4096 then (⟨F, 0, none⟩ : Addr) else ⟨F, P1.length, none⟩) = aa at hcp hsl
      rw [hm4, Nat.sub_zero, Nat.sub_zero, show min N.length m = m by omega] at hcp
      rw [hm4, Nat.sub_zero, show min N.length m = m by omega] at HP
      simp only [hm4] at hsl
      have hwr : IntKind.i64.wrap ((P1.length : Int) + m) = P1.length + m := by rw [IntKind.wrap_i64]; omega
      go_wp2_with fail
      go_region_held3 (fun w' => w'.cell? ⟨W, 0, none⟩ = some .nilIface ∧ w'.cell? ⟨W, 1, none⟩ = some (.slice (some ⟨F, 0, none⟩) 4096 4096) ∧ w'.cell? ⟨W, 2, none⟩ = some (.int .i64 P1.length)) (first | exact hd | exact ⟨c0, c1, c2⟩ | simp [go_sem]) (fail)
      obtain ⟨d0, d1, d2⟩ := hd
      clear c0 c1 c2 f2
      have hmk : (0 : Int) ≤ m := by omega
      have hmn : (m : Int) ≤ N.length := by omega
      have hsl2 : ∀ W : World, (Instr.sliceAt 26 (.slice (some ⟨G, 0, none⟩) N.length c) (some (.int .i64 (m : Int))) none none).run Tryd.prog W = .ok (.slice (some ⟨G, m, none⟩) (N.length - m) (c - m)) W := fun W => by
        have h4 : ¬ c = m := by omega
        have h5 : ¬ N.length < m := by omega
        simp [go_sem, Instr.sliceAt, Instr.slice, hmk, hmn, h4]
      have hw0 : IntKind.i64.wrap (0 + (m : Int)) = m := by rw [IntKind.wrap_i64]; omega
      have hl3 : T1.length + (P1 ++ List.take m (List.drop 0 N)).length ≤ 140737488355328 := by
        have := congrArg List.length HX.out.eq
        simp at this ⊢
        omega
      have hb3 : B ≤ (W'.setCell ⟨W, 2, none⟩ (.int .i64 ((P1.length : Int) + m))).heap.size := Nat.le_trans hbase HP.out.2.size
      go_wp2_with (go_at_call 29; refine (flush_any B S W F v1 T1 _ _ HP.out.1 hl3 hb3).mono ?_; rintro e w3 ⟨rfl, v3, hs3, k3, b3⟩; replace HS3 := Hid.lay hs3; replace HK3 := Hid.lay k3; replace HL3 := Hid.lay b3; clear hs3 k3 b3)
      go_roundw
      case rel => exact ⟨m, v3, _, _, rfl, by simp, HX.out.next HP.out.2 HS3.out HK3.out HL3.out (by omega)⟩
      case measure =>
        have e1 : w3.cell? ⟨W, 2, none⟩ = some (.int .i64 0) := by rw [Lib.cell_of_heap HS3.out.bW]; rfl
        have e2 := HS.out.W0.2.2.1
        rw [e1, e2]
        simp [intOf]
        omega
    · have hgo' : (decide (((N.length - k : Nat) : Int) > 4096 - (P1.length : Int))) = false := by simp; omega
      obtain ⟨m, hm⟩ : ∃ m, k + m = N.length := ⟨N.length - k, by omega⟩
      have hm4 : N.length - k = m := by omega
      go_wp2_with (go_at_call 35; refine (avail_any W F P1.length _ hP1 c1 c2).mono ?_; rintro e wx ⟨rfl, nd, hwx⟩; replace HX : Hid (St w wx B S W F v v1 T P T1 P1 N k) := Hid.lay (by rw [hwx]; exact HS.out.drew nd); clear hwx c0 c1 c2 f2; obtain ⟨c0, c1, c2, f2⟩ := HX.out.W0)
      obtain ⟨W', hcp, hd, hfz, HP⟩ := HX.out.bufs G c hnews.out hG.out
      have hsl := buf_slice F P1.length hP1
      generalize (if P1.length = 4096 then (⟨F, 0, none⟩ : Addr) else ⟨F, P1.length, none⟩) = aa at hcp hsl
      rw [hm4, show min m (4096 - P1.length) = m by omega] at hcp
      rw [hm4, show min m (4096 - P1.length) = m by omega] at HP
      try simp only [hm4]
      have hwr : IntKind.i64.wrap ((P1.length : Int) + m) = P1.length + m := by rw [IntKind.wrap_i64]; omega
      have hwk : IntKind.i64.wrap ((k : Int) + m) = N.length := by rw [IntKind.wrap_i64]; omega
      go_region_held3 (fun w' => w'.cell? ⟨W, 0, none⟩ = some .nilIface ∧ w'.cell? ⟨W, 1, none⟩ = some (.slice (some ⟨F, 0, none⟩) 4096 4096) ∧ w'.cell? ⟨W, 2, none⟩ = some (.int .i64 P1.length)) (first | exact hd | exact ⟨c0, c1, c2⟩ | simp [go_sem]) (fail)
      obtain ⟨d0, d1, d2⟩ := hd
      clear c0 c1 c2 f2
      go_wp2_with fail
      go_ret2
      refine ⟨rfl, v1, T1, _, HP.out.1, ?_, HP.out.2, HX.out.blk⟩
      have he := HX.out.eq
      have hd : List.take (4096 - P1.length) (List.drop k N) = List.drop k N := List.take_of_length_le (by simp; omega)
      rw [hd, ← List.append_assoc, he, List.append_assoc, List.take_append_drop]
end Go.Proofs.Qxb6609202aDoor.Wr
