/-
  (*PCG).Uint64 (45), (*Rand).Uint64 (22): a draw of one word.
-/
import Derived.Test.Qxb6609291aPcgWalk
namespace Go.Proofs.Qxb6609291a.Pcg
open Go.RowKit

set_option maxHeartbeats 1000000 in
theorem pcg_any (p X : Nat) (hX : X < 340282366920938463463374607431768211456) (w : World) (h0 : w.cell? ⟨p, 0, none⟩ = some (.int .u64 (hiOf X))) (h1 : w.cell? ⟨p, 1, none⟩ = some (.int .u64 (loOf X))) (f0 : w.frozen? ⟨p, 0, none⟩ = false) (f1 : w.frozen? ⟨p, 1, none⟩ = false) :
    Calls Try.prog 45 #[.pointer (some ⟨p, 0, none⟩)] w fun e w' => e = .returned (.int .u64 (out (nxt X))) ∧ ∃ n, w' = ((w.drewN n).setCell ⟨p, 1, none⟩ (.int .u64 (loOf (nxt X)))).setCell ⟨p, 0, none⟩ (.int .u64 (hiOf (nxt X))) := by
  obtain ⟨a0, a1, b0, b1⟩ := hl (nxt X) (nxt_lt X)
  go_enter Try.func45, Try.ntmps45
  go_wp2_with (go_at_call 46; refine (next_any p X hX _ h0 h1 f0 f1).mono ?_; rintro e w' ⟨rfl, n, rfl⟩)
  go_ret
  exact ⟨rfl, _, rfl⟩

/-- the generator in memory: Rand's block r points to the PCG's block p, which holds the state X -/
structure Rng (w : World) (r p X : Nat) : Prop where
  hX : X < 340282366920938463463374607431768211456
  h0 : w.cell? ⟨p, 0, none⟩ = some (.int .u64 (hiOf X))
  h1 : w.cell? ⟨p, 1, none⟩ = some (.int .u64 (loOf X))
  f0 : w.frozen? ⟨p, 0, none⟩ = false
  f1 : w.frozen? ⟨p, 1, none⟩ = false
  hr : w.cell? ⟨r, 0, none⟩ = some (.iface 39 (.pointer (some ⟨p, 0, none⟩)))
  ne : r ≠ p

theorem Rng.step {w : World} {r p X : Nat} (h : Rng w r p X) (n : Nat) :
    Rng (((w.drewN n).setCell ⟨p, 1, none⟩ (.int .u64 (loOf (nxt X)))).setCell ⟨p, 0, none⟩ (.int .u64 (hiOf (nxt X)))) r p (nxt X) where
  hX := nxt_lt X
  h0 := by
    have := h.h0
    simp [go_sem, this]
  h1 := by
    have := h.h1
    simp [go_sem, this]
  f0 := by have := h.f0; simp [go_sem, this]
  f1 := by have := h.f1; simp [go_sem, this]
  hr := by
    rw [World.cell?_setCell_other _ _ _ _ (fun e => h.ne (by cases e; rfl)), World.cell?_setCell_other _ _ _ _ (fun e => by cases e)]
    exact h.hr
  ne := h.ne

theorem grown_step (w : World) (p : Nat) (u v : Value) (n : Nat) : w.grownBy (((w.drewN n).setCell ⟨p, 1, none⟩ u).setCell ⟨p, 0, none⟩ v) (some p) where
  os := rfl
  tape := rfl
  output := rfl
  size := by simp
  block := fun k hk hne => by
    have hne' : k ≠ p := fun e => hne (by rw [e])
    rw [Below.heap_setCell _ _ _ _ hne', Below.heap_setCell _ _ _ _ hne']
    rfl

theorem method_u64 (a : Addr) (w : World) : (method 184 39 (.pointer (some a)) "Uint64").run Try.prog w = .ok (45, .pointer (some a)) w := by kernel_rfl

set_option maxHeartbeats 1000000 in
theorem uint64_any (r p X : Nat) (w : World) (hg : Hid (Rng w r p X)) :
    Calls Try.prog 22 #[.pointer (some ⟨r, 0, none⟩)] w fun e w' => e = .returned (.int .u64 (out (nxt X))) ∧ Rng w' r p (nxt X) ∧ w.grownBy w' (some p) := by
  have hr := hg.out.hr
  have hm : ∀ w, (method 184 39 (.pointer (some ⟨p, 0, none⟩)) "Uint64").run Try.prog w = .ok (45, .pointer (some ⟨p, 0, none⟩)) w := fun w => method_u64 ⟨p, 0, none⟩ w
  go_enter Try.func22, Try.ntmps22
  go_wp2_with (go_at_call 45; refine (pcg_any p X hg.out.hX _ hg.out.h0 hg.out.h1 hg.out.f0 hg.out.f1).mono ?_; rintro e w' ⟨rfl, n, rfl⟩)
  go_ret
  exact ⟨rfl, hg.out.step n, grown_step _ _ _ _ _⟩
end Go.Proofs.Qxb6609291a.Pcg
