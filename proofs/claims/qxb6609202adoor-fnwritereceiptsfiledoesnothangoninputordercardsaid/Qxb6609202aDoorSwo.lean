/-
  lt2 is a strict weak order.
-/
import Derived.Test.Qxb6609202aDoorSr
namespace Go.Proofs.Qxb6609202aDoor.Wr
open Go.RowKit Go.Lib Go.Sort

theorem lt2_iff (x y : R3) : lt2 x y = true ↔ x.1 < y.1 ∨ (x.1 = y.1 ∧ x.2.1 < y.2.1) := by
  unfold lt2
  simp
theorem lt2_not (x y : R3) : lt2 x y = false ↔ ¬ (x.1 < y.1 ∨ (x.1 = y.1 ∧ x.2.1 < y.2.1)) := by
  rw [← lt2_iff]
  simp
theorem swo_lt2 : SWO lt2 := {
  irrefl x := by rw [lt2_not]; omega
  trans x y z h1 h2 := by rw [lt2_iff] at *; omega
  ntrans x y z h1 h2 := by rw [lt2_not] at *; omega }
end Go.Proofs.Qxb6609202aDoor.Wr
