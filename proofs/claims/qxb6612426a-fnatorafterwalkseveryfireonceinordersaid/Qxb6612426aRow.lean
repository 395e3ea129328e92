/-
  From the frame's words on a slice of integers to the walks' words.
-/
import Derived.Test.Qxb6612426aSmall
import Derived.OpenShut
namespace Go.Proofs.Qxb6612426a.Tm
open Go.RowKit

theorem getD_take (zs : List Int) (len k : Nat) (h : k < len) : (zs.take len).getD k 0 = zs.getD k 0 := by
  simp [List.getD_eq_getElem?_getD, h]

theorem rd_of {w : World} {a : Option Addr} {len cap : Nat} {zs : List Int}
    (h : (a = none ∧ len = 0 ∧ cap = 0 ∧ zs = []) ∨ ∃ x, a = some x ∧ len ≤ cap ∧ cap ≤ maxLen ∧ zs.length = cap ∧ (∀ i, i < zs.length → w.cell? (x.add i) = some (.int .i64 (zs.getD i 0))) ∧ ∀ n ∈ zs, (Lit.int .i64 n).wf = true) :
    ∃ (xs : List Int) (bs os : Nat), xs.length = len ∧ Rd w xs a bs os ∧ Fit xs := by
  rcases h with ⟨rfl, rfl, rfl, rfl⟩ | ⟨x, rfl, hlc, _, hz, hc, hw⟩
  · exact ⟨[], 0, 0, rfl, ⟨fun h => by simp at h, fun h => by simp at h, fun k hk => by simp at hk⟩, fun k => by simp⟩
  · have hL : (zs.take len).length = len := by rw [List.length_take]; omega
    have hF : Fit (zs.take len) := by
      intro k
      by_cases hk : k < (zs.take len).length
      · have hm : (zs.take len).getD k 0 ∈ zs := by
          rw [List.getD_eq_getElem?_getD, List.getElem?_eq_getElem hk]
          exact List.mem_of_mem_take (List.getElem_mem hk)
        exact bounds_i64 (hw _ hm)
      · rw [List.getD_eq_getElem?_getD, List.getElem?_eq_none (by omega)]
        simp
    by_cases hp : 0 < len
    · obtain ⟨b, off, rfl, hcell⟩ := ints_at hc (by omega)
      refine ⟨zs.take len, b, off, hL, ⟨fun _ => rfl, fun _ => World.block_lt_of_cell? w _ (hcell 0 (by omega)), fun k hk => ?_⟩, hF⟩
      rw [hL] at hk
      rw [getD_take _ _ _ hk]
      exact hcell k (by omega)
    · exact ⟨zs.take len, 0, 0, hL, ⟨fun h => by omega, fun h => by omega, fun k hk => by omega⟩, hF⟩
end Go.Proofs.Qxb6612426a.Tm
