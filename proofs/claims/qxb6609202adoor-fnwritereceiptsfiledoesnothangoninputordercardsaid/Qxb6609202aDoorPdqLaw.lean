/-
  One round of pdqsort, as plain functions: what the two partitions hand on.
-/
import Derived.Test.Qxb6609202aDoorSwo
import Derived.Sort.Walk13a
import Derived.Sort.AssemblyPlain
namespace Go.Proofs.Qxb6609202aDoor.Wr
open Go.RowKit Go.Lib Go.Sort

variable {dk : Array R3} {a b lim : Nat} {wb wp : Bool}

theorem step_eq (h12 : ¬ b - a ≤ 12) (hl0 : ¬ lim = 0) (hb : b ≤ dk.size) (hB : Below lt2 a b dk) (hpi : (rd lt2 dk a b lim wb wp).pi.2 = false) (ha0 : 0 < a)
    (hnl : lt2 (rd lt2 dk a b lim wb wp).pi.1[a - 1]! (rd lt2 dk a b lim wb wp).pi.1[(rd lt2 dk a b lim wb wp).pivot]! = false) (P : Nat × Array R3) (hP : partitionEqual lt2 (rd lt2 dk a b lim wb wp).pi.1 a b (rd lt2 dk a b lim wb wp).pivot = P) :
    a < P.1 ∧ P.1 ≤ b ∧ P.2.size = dk.size ∧ Below lt2 P.1 b P.2 ∧ pdq lt2 dk a b lim wb wp = pdq lt2 P.2 P.1 b (rd lt2 dk a b lim wb wp).lim wb wp := by
  obtain ⟨f1, f2, f3, f4, f5, f6, f7, f8⟩ := rd_facts (limit := lim) (wb := wb) (wp := wp) swo_lt2 partialInsertionSort_holds reverseRange_holds (by omega : a < b) hb hB
  obtain ⟨m, d4⟩ := P
  obtain ⟨g1, g2, g3, g4, _⟩ := round_eq swo_lt2 (partitionEqual_holds lt2) ha0 f6.1 f6.2 (by rw [f7]; exact hb) f8 hnl hP
  refine ⟨g1, g2, g3.trans f7, g4, ?_⟩
  have e := pdq_eq h12 hl0 hpi (by simp [ha0, hnl]) (by rw [hP]; exact ⟨g1, g2⟩)
  rw [hP] at e
  exact e

theorem step_part (h12 : ¬ b - a ≤ 12) (hl0 : ¬ lim = 0) (hb : b ≤ dk.size) (hB : Below lt2 a b dk) (hpi : (rd lt2 dk a b lim wb wp).pi.2 = false)
    (hnl : a = 0 ∨ lt2 (rd lt2 dk a b lim wb wp).pi.1[a - 1]! (rd lt2 dk a b lim wb wp).pi.1[(rd lt2 dk a b lim wb wp).pivot]! = true) (P : Nat × Bool × Array R3) (hP : partition lt2 (rd lt2 dk a b lim wb wp).pi.1 a b (rd lt2 dk a b lim wb wp).pivot = P) :
    a ≤ P.1 ∧ P.1 < b ∧ P.2.2.size = dk.size ∧ Below lt2 a P.1 P.2.2 ∧ Below lt2 (P.1 + 1) b P.2.2 ∧
    (P.1 - a < b - P.1 → Below lt2 (P.1 + 1) b (pdq lt2 P.2.2 a P.1 (rd lt2 dk a b lim wb wp).lim true true) ∧ pdq lt2 dk a b lim wb wp = pdq lt2 (pdq lt2 P.2.2 a P.1 (rd lt2 dk a b lim wb wp).lim true true) (P.1 + 1) b (rd lt2 dk a b lim wb wp).lim (decide (P.1 - a ≥ (b - a) / 8)) P.2.1) ∧
    (¬ P.1 - a < b - P.1 → Below lt2 a P.1 (pdq lt2 P.2.2 (P.1 + 1) b (rd lt2 dk a b lim wb wp).lim true true) ∧ pdq lt2 dk a b lim wb wp = pdq lt2 (pdq lt2 P.2.2 (P.1 + 1) b (rd lt2 dk a b lim wb wp).lim true true) a P.1 (rd lt2 dk a b lim wb wp).lim (decide (b - P.1 ≥ (b - a) / 8)) P.2.1) := by
  obtain ⟨f1, f2, f3, f4, f5, f6, f7, f8⟩ := rd_facts (limit := lim) (wb := wb) (wp := wp) swo_lt2 partialInsertionSort_holds reverseRange_holds (by omega : a < b) hb hB
  obtain ⟨m, ap, d4⟩ := P
  obtain ⟨g1, g2, g3, g4, g5, g6, g7⟩ := round_part swo_lt2 (partition_holds lt2) f6.1 f6.2 (by rw [f7]; exact hb) f8 hP
  have hnl' : (decide (a > 0) && !lt2 (rd lt2 dk a b lim wb wp).pi.1[a - 1]! (rd lt2 dk a b lim wb wp).pi.1[(rd lt2 dk a b lim wb wp).pivot]!) = false := by
    rcases hnl with h | h
    · simp [h]
    · simp [h]
  have hs4 : d4.size = dk.size := g3.trans f7
  refine ⟨g1, g2, hs4, g4, g5, fun hlt => ?_, fun hlt => ?_⟩
  · obtain ⟨p1, p2⟩ := pdq_sorts lt2 swo_lt2 d4 a m (rd lt2 dk a b lim wb wp).lim true true g1 (by omega) g4
    refine ⟨(g6 _ p1 p2).1, ?_⟩
    have e := pdq_left h12 hl0 hpi hnl' (by rw [hP]; exact ⟨g1, g2⟩) (by rw [hP]; exact hlt)
    rw [hP] at e
    exact e
  · obtain ⟨p1, p2⟩ := pdq_sorts lt2 swo_lt2 d4 (m + 1) b (rd lt2 dk a b lim wb wp).lim true true (by omega) (by omega) g5
    refine ⟨(g7 _ p1 p2).1, ?_⟩
    have e := pdq_right h12 hl0 hpi hnl' (by rw [hP]; exact ⟨g1, g2⟩) (by rw [hP]; exact hlt)
    rw [hP] at e
    exact e
end Go.Proofs.Qxb6609202aDoor.Wr
