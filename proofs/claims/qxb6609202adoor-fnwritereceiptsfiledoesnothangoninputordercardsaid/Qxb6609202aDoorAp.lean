/-
  An append to a slice of bytes of the call's own: as the kit's law, with the row that the result lies in told: the old one, or a new one.
-/
import Derived.Test.Qxb6609202aDoorShelf
import Derived.Laws.AppendOwn
import Derived.OwnWalk
import Derived.WalkKit
namespace Go.Proofs.Qxb6609202aDoor.Wr
open Go.RowKit

/-- v became v' on the way from w to w': nothing old has turned but v's own row; v' lies in that row or in a new one -/
structure Fr (v v' : Value) (w w' : World) : Prop where
  grown : w.grownBy w' v.ownBlock
  blk : v'.ownBlock = v.ownBlock ∨ ∃ g, v'.ownBlock = some g ∧ w.heap.size ≤ g

theorem grown_trans {a b c : World} {row : Option Nat} (h : a.grownBy b row) (k : b.grownBy c row) : a.grownBy c row :=
  ⟨k.os.trans h.os, k.tape.trans h.tape, k.output.trans h.output, Nat.le_trans h.size k.size, fun i hi hne => (k.block i (Nat.lt_of_lt_of_le hi h.size) hne).trans (h.block i hi hne)⟩
theorem grown_refl (w : World) (row : Option Nat) : w.grownBy w row := ⟨rfl, rfl, rfl, Nat.le_refl _, fun _ _ _ => rfl⟩
theorem grown_weak {w w' : World} {row : Option Nat} (h : w.grownBy w' none) : w.grownBy w' row := ⟨h.os, h.tape, h.output, h.size, fun k hk _ => h.block k hk (by simp)⟩
theorem grown_of_below {w w' : World} (h : Below w.heap.size w w') (row : Option Nat) : w.grownBy w' row := ⟨h.os, h.tape, h.output, h.size, fun k hk _ => h.block k hk⟩
theorem below_of_grown {w w' : World} (h : w.grownBy w' none) : Below w.heap.size w w' := ⟨h.os, h.tape, h.output, h.size, fun k hk => h.block k hk (by simp)⟩

theorem Fr.refl (v : Value) (w : World) : Fr v v w w := ⟨grown_refl _ _, .inl rfl⟩
/-- ahead of the step: new blocks alone -/
theorem Fr.pre {v v' : Value} {w0 w w' : World} (h0 : w0.grownBy w none) (h : Fr v v' w w') : Fr v v' w0 w' :=
  ⟨grown_trans (grown_weak h0) h.grown, by
    rcases h.blk with e | ⟨g, a, b⟩
    · exact .inl e
    · exact .inr ⟨g, a, Nat.le_trans h0.size b⟩⟩
/-- behind the step: new blocks alone -/
theorem Fr.post {v v' : Value} {w w' w2 : World} (h : Fr v v' w w') (h2 : w'.grownBy w2 none) : Fr v v' w w2 := ⟨grown_trans h.grown (grown_weak h2), h.blk⟩
theorem Fr.trans {v v1 v2 : Value} {w w1 w2 : World} (h : Fr v v1 w w1) (k : Fr v1 v2 w1 w2) : Fr v v2 w w2 := {
  grown := ⟨k.grown.os.trans h.grown.os, k.grown.tape.trans h.grown.tape, k.grown.output.trans h.grown.output, Nat.le_trans h.grown.size k.grown.size, fun i hi hne => by
    have e : some i ≠ v1.ownBlock := by
      rcases h.blk with e | ⟨g, e, hg⟩
      · rw [e]; exact hne
      · rw [e]; simp; omega
    exact (k.grown.block i (Nat.lt_of_lt_of_le hi h.grown.size) e).trans (h.grown.block i hi hne)⟩
  blk := by
    rcases k.blk with e | ⟨g, e, hg⟩
    · rw [e]; exact h.blk
    · exact .inr ⟨g, e, Nat.le_trans h.grown.size hg⟩ }
/-- every old block but v's own -/
theorem Fr.keep {v v' : Value} {w w' : World} (h : Fr v v' w w') {k : Nat} (hk : k < w.heap.size) (hne : some k ≠ v.ownBlock) : w'.heap[k]? = w.heap[k]? := h.grown.block k hk hne

theorem info5 : (Tryd.prog.info? 5).map (fun i => (i.zero, i.size, i.bytes)) = some (some (.int .u8 0), 1, 1) := by kernel_rfl

theorem run_ap (w : World) (ty : TypeId) (B n : Nat) (v : Value) (xs : List Value) (hown : w.ownsRow B 5 1 v n xs) (ad : Addr) (m c : Nat) (news : List Value) (hl : news.length = m)
    (hnews : ∀ j u, news[j]? = some u → w.cell? (ad.add j) = some u) (h1 : ∀ u ∈ news, u.oneCell' = true) (hlim : n + m ≤ 140737488355328) (hbase : B ≤ w.heap.size) :
    ∃ v' w', (Builtin.append_ #[26, 26] ty #[v, .slice (some ad) m c]).run Tryd.prog w = .ok v' w' ∧ w'.ownsRow B 5 1 v' (n + m) (xs ++ news) ∧ Fr v v' w w' := by
  obtain ⟨i0, hi, hz0, hz1, hz2⟩ := info_parts info5
  have hl' : news.length = m * 1 := by omega
  obtain ⟨v', w', hr, ho, hg, hnil⟩ := run_append_own (P := Tryd.prog) w B 26 ty 5 i0 (.int .u8 0) 1 1 Tryd.underlying26 hi hz0 hz1 hz2 rfl (by decide) v n xs hown ad m c news hl' hnews h1 (by unfold maxLen; omega) (by omega) hbase
  refine ⟨v', w', hr, ho, hg, ?_⟩
  rcases hown.2 with ⟨rfl, rfl⟩ | ⟨g, cap, cur, rfl, hbg, hh, hnc, hcm, hcs, htake⟩
  · by_cases hm : m = 0
    · left; rw [hnil.2 ⟨rfl, hm⟩]
    · right
      have h2 := run_append_nil (P := Tryd.prog) w 26 ty 5 i0 (.int .u8 0) Tryd.underlying26 hi hz0 ad m c news (by rw [hz1]; omega) hnews (by omega) (by omega) (by rw [hz2]; omega)
      rw [hr] at h2
      cases h2
      exact ⟨_, rfl, Nat.le_refl _⟩
  · by_cases hroom : n + m ≤ cap
    · left
      have h2 := run_append_room (P := Tryd.prog) w 26 ty 5 i0 Tryd.underlying26 hi g n cap cur hh ad m c news (by rw [hz1]; omega) hnews h1 hroom (by rw [hz1, hcs]; omega)
      rw [hr] at h2
      cases h2
      rfl
    · right
      have holds : ∀ j u, xs[j]? = some u → w.cell? ((⟨g, 0, none⟩ : Addr).add j) = some u := hown.cells (g := g) rfl
      have h2 := run_append_grow (P := Tryd.prog) w 26 ty 5 i0 (.int .u8 0) Tryd.underlying26 hi hz0 ⟨g, 0, none⟩ n cap xs (by rw [hz1]; exact hown.1) holds ad m c news (by rw [hz1]; omega) hnews (by omega) (by omega) (by rw [hz2]; exact growslice_fits (by omega) (by omega))
      rw [hr] at h2
      cases h2
      exact ⟨_, rfl, Nat.le_refl _⟩

/-- the law for the walk -/
theorem wp_ap {w : World} {ops : Array Oper} {rest : List Oper} {o : Oper} {a : Act} {Q : Exit → Act → World → Prop} (hgd : o.guard = none) (s x : Operand)
    (ho : o.op = .call { callee := .builtin .append, args := #[s, x], argTypes := #[26, 26] })
    (B n : Nat) (v : Value) (xs : List Value) (hs : a.eval s = v) (hown : w.ownsRow B 5 1 v n xs) (ad : Addr) (m c : Nat) (news : List Value) (hx : a.eval x = .slice (some ad) m c) (hl : news.length = m)
    (hnews : ∀ j u, news[j]? = some u → w.cell? (ad.add j) = some u) (h1 : ∀ u ∈ news, u.oneCell' = true) (hlim : n + m ≤ 140737488355328) (hbase : B ≤ w.heap.size)
    (h : ∀ v' w', w'.ownsRow B 5 1 v' (n + m) (xs ++ news) → Fr v v' w w' → wpList Tryd.prog ops Q rest (a.put o.dst v') w') : wpList Tryd.prog ops Q (o :: rest) a w :=
  wpList_plain hgd fun _ hK => by
    obtain ⟨v', w', hr, h2, h3⟩ := run_ap w o.type B n v xs hown ad m c news hl hnews h1 hlim hbase
    unfold Oper.wp execOp
    simp only [ho, resolve, invoke, builtin, Sem.run_bind, Sem.run_pure, Result.andThen_ok, List.map_toArray, List.map_cons, List.map_nil, hs, hx, hr]
    exact hK _ _ (h v' w' h2 h3)

/-- one byte, laid in a new block, appended -/
theorem one_new (w : World) (b : Int) (t : TypeId) : ∀ j u, [Value.int .u8 b][j]? = some u → (w.alloc (.cells #[.int .u8 b] t)).cell? ((⟨w.heap.size, 0, none⟩ : Addr).add j) = some u := by
  intro j u hj
  match j, hj with
  | 0, hj => simp at hj; subst hj; simp [Addr.add]
theorem one_cell (b : Int) : ∀ u ∈ [Value.int .u8 b], u.oneCell' = true := by intro u hu; simp at hu; subst hu; rfl
end Go.Proofs.Qxb6609202aDoor.Wr
