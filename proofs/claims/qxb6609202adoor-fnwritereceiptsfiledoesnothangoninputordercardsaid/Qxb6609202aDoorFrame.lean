/-
  The rows' frame: the listed tables, a start that meets the condition, the arguments.
-/
import Derived.Test.Qxb6609202aDoorRows
import Derived.Test.Qxb6609202aDoorArg
import Derived.WalkKit
import Derived.ProofKit
import Derived.OpenShut
import Derived.ShutString
import Derived.ChangeOld
import Derived.Below
import Derived.Lay
import Derived.Stop.Joined
import Derived.Lib.LaidTab
import Derived.MakeChecks
namespace Go.Proofs.Qxb6609202aDoor.Wr
open Go.RowKit Go.Lib Go.Sort

/-- what both rows list -/
def laid4 : List (String × DataW Unit) := Rows.fnWriteReceiptsFileDoesNotHangOnInputOrderRow.laid

theorem own : ownKnob Tryd.prog.godebug = none := by kernel_rfl
theorem laidOut : laidOutB Tryd.prog = true := by kernel_rfl
theorem door_met (os : Os) (args : Array Value) : laidMetH Tryd.prog laid4 ((World.laidAll Tryd.prog os laid4).forCall (fun _ _ => 0) ⟨#[], args, []⟩).memory := by
  rw [MakeChecks.laidMetH_plain _ _ _ (by kernel_rfl)]
  exact laidMet_laidAll args (by kernel_rfl) (by kernel_rfl)
theorem door_shaped (os : Os) : ((World.laidAll Tryd.prog os laid4).forCall (fun _ _ => 0) ⟨#[], #[.slice none 0 0, .slice none 0 0, .slice none 0 0], []⟩).Shaped Tryd.prog :=
  World.shaped_of_ZipB (by kernel_rfl) (by kernel_rfl)

theorem gPow : Tryd.prog.globalNamed pw = some 2 := by kernel_rfl
theorem tPow : (Tryd.prog.globals[2]?).map (·.type) = some 136 := by kernel_rfl
set_option maxRecDepth 100000 in
theorem tab_of_laid {W : World} (h : laidMetH Tryd.prog laid4 W) : Tb W.heap.size W := by
  rw [MakeChecks.laidMetH_plain _ _ _ (by kernel_rfl)] at h
  refine tabBelow_of_tabIs ?_
  obtain ⟨ps, ⟨g0, t0, cs0, f0, p0, q0, hg0, ht0, hv0, hd0, ⟨g1, t1, cs1, f1, p1, q1, hg1, ht1, hv1, hd1, ⟨g2, t2, cs2, f2, p2, q2, hg2, ht2, hv2, hd2, _, _⟩, _⟩, _⟩, _⟩ := h
  obtain rfl := Option.some.inj (gPow.symm.trans hg2)
  obtain rfl := Option.some.inj (tPow.symm.trans ht2)
  unfold TabIs
  have hv : World.var? Tryd.prog W pw = some cs2 := hv2
  rw [hv, ← cells_of_tab (zs := pow10Tab) Tryd.underlying136 Tryd.underlying50 (by kernel_rfl) (by kernel_rfl) hd2]

def IsRow (w : World) (a : Option Addr) (len cap : Nat) (zs : List Int) : Prop :=
  (a = none ∧ len = 0 ∧ cap = 0 ∧ zs = []) ∨
  ∃ x, a = some x ∧ len ≤ cap ∧ cap ≤ maxLen ∧ zs.length = cap ∧ (∀ i, i < zs.length → w.cell? (x.add i) = some (.int .i64 (zs.getD i 0))) ∧ ∀ n ∈ zs, (Lit.int .i64 n).wf = true

theorem arg_of {w : World} {a : Option Addr} {len cap : Nat} {zs : List Int} (h : IsRow w a len cap zs) : (∃ xs : Array Int, Arg w a len xs) ∧ len ≤ 9223372036854775807 := by
  rcases h with ⟨rfl, rfl, rfl, rfl⟩ | ⟨x, rfl, hlc, hcm, hz, hc, hw⟩
  · exact ⟨⟨#[], rfl, fun _ => rfl, .inl rfl, fun i hi => absurd hi (Nat.not_lt_zero _)⟩, by omega⟩
  · have hm : cap ≤ 9223372036854775807 := Nat.le_trans hcm (by decide)
    refine ⟨⟨(zs.take len).toArray, ?_, (fun e => by cases e), ?_, fun i hi => ?_⟩, by omega⟩
    · simp; omega
    · by_cases hp : 0 < len
      · obtain ⟨b, off, rfl, hcell⟩ := ints_at hc (by omega)
        refine .inr ⟨b, off, rfl, fun i hi => ?_⟩
        rw [hcell i (by omega), getElem!_pos _ i (by simp; omega)]
        simp [List.getD_eq_getElem?_getD, show i < zs.length by omega]
      · exact .inl (by omega)
    · have hm2 : (zs.take len).toArray[i]! ∈ zs := by
        rw [getElem!_pos _ i (by simp; omega)]
        simp
      exact bounds_i64 (hw _ hm2)
end Go.Proofs.Qxb6609202aDoor.Wr
