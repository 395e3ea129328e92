/-
  Plain: the order by chunk, peer, slot; a bottom-up merge sort's invariants over arrays; no Go in sight.
-/
import Derived.Test.Qxb6609202aDoorSwo
namespace Go.Proofs.Qxb6609202aDoor.Wr
open Go.RowKit Go.Lib Go.Sort

def lt3 (x y : R3) : Bool := if x.1 = y.1 then (if x.2.1 = y.2.1 then decide (x.2.2 < y.2.2) else decide (x.2.1 < y.2.1)) else decide (x.1 < y.1)
def le3 (x y : R3) : Bool := !lt3 y x

theorem lt3_iff (x y : R3) : lt3 x y = true ↔ x.1 < y.1 ∨ (x.1 = y.1 ∧ (x.2.1 < y.2.1 ∨ (x.2.1 = y.2.1 ∧ x.2.2 < y.2.2))) := by
  unfold lt3
  split
  · rename_i h
    split
    · rename_i h2
      simp [h, h2]
    · rename_i h2
      simp [h, h2]
  · rename_i h
    simp [h]
theorem le3_iff (x y : R3) : le3 x y = true ↔ x.1 < y.1 ∨ (x.1 = y.1 ∧ (x.2.1 < y.2.1 ∨ (x.2.1 = y.2.1 ∧ x.2.2 ≤ y.2.2))) := by
  unfold le3
  rw [Bool.not_eq_true', ← Bool.not_eq_true, lt3_iff]
  omega
theorem le3_trans (x y z : R3) (h1 : le3 x y = true) (h2 : le3 y z = true) : le3 x z = true := by
  rw [le3_iff] at *
  omega
theorem le3_total (x y : R3) : (le3 x y || le3 y x) = true := by
  rw [Bool.or_eq_true, le3_iff, le3_iff]
  omega
theorem le3_anti (x y : R3) (h1 : le3 x y = true) (h2 : le3 y x = true) : x = y := by
  rw [le3_iff] at *
  obtain ⟨a, b, c⟩ := x
  obtain ⟨d, e, f⟩ := y
  dsimp only at *
  have : a = d := by omega
  have : b = e := by omega
  have : c = f := by omega
  simp [*]

abbrev Srt (l : List R3) : Prop := l.Pairwise fun x y => le3 x y = true

theorem srt_unique {l l' : List R3} (h : Srt l) (h' : Srt l') (p : l.Perm l') : l = l' :=
  List.Perm.eq_of_pairwise (fun x y _ _ => le3_anti x y) h h' p

/-- the places i .. j - 1 -/
def seg (d : Array R3) (i j : Nat) : List R3 := (d.toList.drop i).take (j - i)

theorem bang_get (d : Array R3) {i : Nat} (h : i < d.size) : d[i]! = d[i] := by simp [h]
theorem seg_nil (d : Array R3) {i j : Nat} (h : j ≤ i) : seg d i j = [] := by
  unfold seg
  rw [show j - i = 0 by omega, List.take_zero]
theorem seg_out (d : Array R3) {i j : Nat} (h : d.size ≤ i) : seg d i j = [] := by
  unfold seg
  rw [List.drop_eq_nil_of_le (by simpa using h), List.take_nil]
theorem seg_cons (d : Array R3) {i j : Nat} (h : i < j) (hj : j ≤ d.size) : seg d i j = d[i]! :: seg d (i + 1) j := by
  unfold seg
  rw [List.drop_eq_getElem_cons (by simp; omega), show j - i = (j - (i + 1)) + 1 by omega, List.take_succ_cons, bang_get d (by omega)]
  simp
theorem seg_app (d : Array R3) {i j k : Nat} (h1 : i ≤ j) (h2 : j ≤ k) : seg d i j ++ seg d j k = seg d i k := by
  unfold seg
  rw [show k - i = (j - i) + (k - j) by omega, List.take_add, List.drop_drop, show i + (j - i) = j by omega]
theorem seg_snoc (d : Array R3) {i k : Nat} (h : i ≤ k) (hk : k < d.size) : seg d i (k + 1) = seg d i k ++ [d[k]!] := by
  rw [← seg_app d h (Nat.le_succ k), seg_cons d (Nat.lt_succ_self k) hk, seg_nil d (Nat.le_refl _)]
theorem seg_all (d : Array R3) : seg d 0 d.size = d.toList := by
  unfold seg
  rw [List.drop_zero, Nat.sub_zero]
  exact List.take_of_length_le (by simp)
theorem seg_low (t : Array R3) (v : R3) {i j k : Nat} (h : j ≤ k) : seg (t.set! k v) i j = seg t i j := by
  unfold seg
  apply List.ext_getElem?
  intro x
  simp only [List.getElem?_take, List.getElem?_drop, Array.set!_eq_setIfInBounds, Array.toList_setIfInBounds, List.getElem?_set]
  split
  · rw [if_neg (by omega)]
  · rfl
theorem set_get_self (t : Array R3) (v : R3) {k : Nat} (h : k < t.size) : (t.set! k v)[k]! = v := by
  rw [bang_get _ (by simpa using h)]
  simp
theorem seg_put (t : Array R3) (v : R3) {i k : Nat} (h : i ≤ k) (hk : k < t.size) : seg (t.set! k v) i (k + 1) = seg t i k ++ [v] := by
  rw [seg_snoc _ h (by simpa using hk), seg_low t v (Nat.le_refl _), set_get_self t v hk]

/-- the merge in hand: of a's halves [lo, mid) and [mid, hi) into t -/
structure Mg (a t0 t : Array R3) (lo mid hi i j : Nat) : Prop where
  b1 : lo ≤ i
  b2 : i ≤ mid
  b3 : mid ≤ j
  b4 : j ≤ hi
  b5 : hi ≤ a.size
  sz : t.size = a.size
  low : ∀ x y, y ≤ lo → seg t x y = seg t0 x y
  mer : seg t lo (i + (j - mid)) ++ (seg a i mid).merge (seg a j hi) le3 = (seg a lo mid).merge (seg a mid hi) le3

theorem Mg.start {a t : Array R3} {lo mid hi : Nat} (h1 : lo ≤ mid) (h2 : mid ≤ hi) (h3 : hi ≤ a.size) (hs : t.size = a.size) : Mg a t t lo mid hi lo mid :=
  ⟨Nat.le_refl _, h1, Nat.le_refl _, h2, h3, hs, fun _ _ _ => rfl, by rw [seg_nil t (by omega)]; rfl⟩
theorem Mg.right {a t0 t : Array R3} {lo mid hi i j : Nat} (h : Mg a t0 t lo mid hi i j) (hi' : i < mid) (hj' : j < hi) (hl : lt3 a[j]! a[i]! = true) : Mg a t0 (t.set! (i + (j - mid)) a[j]!) lo mid hi i (j + 1) := by
  have b1 := h.b1; have b2 := h.b2; have b3 := h.b3; have b4 := h.b4; have b5 := h.b5; have sz := h.sz
  refine ⟨b1, b2, by omega, by omega, b5, by simpa using sz, fun x y hy => (seg_low t _ (by omega)).trans (h.low x y hy), ?_⟩
  rw [show i + (j + 1 - mid) = i + (j - mid) + 1 by omega, seg_put t _ (by omega) (by omega), ← h.mer, seg_cons a hi' (by omega), seg_cons a hj' b5, List.cons_merge_cons]
  rw [if_neg (by unfold le3; rw [hl]; exact Bool.false_ne_true), List.append_assoc]
  rfl
theorem Mg.left {a t0 t : Array R3} {lo mid hi i j : Nat} (h : Mg a t0 t lo mid hi i j) (hi' : i < mid) (hj' : j < hi) (hl : lt3 a[j]! a[i]! = false) : Mg a t0 (t.set! (i + (j - mid)) a[i]!) lo mid hi (i + 1) j := by
  have b1 := h.b1; have b2 := h.b2; have b3 := h.b3; have b4 := h.b4; have b5 := h.b5; have sz := h.sz
  refine ⟨by omega, by omega, by omega, by omega, b5, by simpa using sz, fun x y hy => (seg_low t _ (by omega)).trans (h.low x y hy), ?_⟩
  rw [show i + 1 + (j - mid) = i + (j - mid) + 1 by omega, seg_put t _ (by omega) (by omega), ← h.mer, seg_cons a hi' (by omega), seg_cons a hj' b5, List.cons_merge_cons]
  rw [if_pos (by unfold le3; rw [hl]; rfl), List.append_assoc]
  rfl
theorem Mg.restL {a t0 t : Array R3} {lo mid hi i : Nat} (h : Mg a t0 t lo mid hi i hi) (hi' : i < mid) : Mg a t0 (t.set! (i + (hi - mid)) a[i]!) lo mid hi (i + 1) hi := by
  have b1 := h.b1; have b2 := h.b2; have b3 := h.b3; have b4 := h.b4; have b5 := h.b5; have sz := h.sz
  refine ⟨by omega, by omega, by omega, by omega, b5, by simpa using sz, fun x y hy => (seg_low t _ (by omega)).trans (h.low x y hy), ?_⟩
  rw [show i + 1 + (hi - mid) = i + (hi - mid) + 1 by omega, seg_put t _ (by omega) (by omega), ← h.mer, seg_cons a hi' (by omega), seg_nil a (Nat.le_refl hi), List.merge_right, List.merge_right, List.append_assoc]
  rfl
theorem Mg.restR {a t0 t : Array R3} {lo mid hi j : Nat} (h : Mg a t0 t lo mid hi mid j) (hj' : j < hi) : Mg a t0 (t.set! (mid + (j - mid)) a[j]!) lo mid hi mid (j + 1) := by
  have b1 := h.b1; have b2 := h.b2; have b3 := h.b3; have b4 := h.b4; have b5 := h.b5; have sz := h.sz
  refine ⟨by omega, by omega, by omega, by omega, b5, by simpa using sz, fun x y hy => (seg_low t _ (by omega)).trans (h.low x y hy), ?_⟩
  rw [show mid + (j + 1 - mid) = mid + (j - mid) + 1 by omega, seg_put t _ (by omega) (by omega), ← h.mer, seg_cons a hj' b5, seg_nil a (Nat.le_refl mid), List.nil_merge, List.nil_merge, List.append_assoc]
  rfl
theorem Mg.all {a t0 t : Array R3} {lo mid hi : Nat} (h : Mg a t0 t lo mid hi mid hi) : seg t lo hi = (seg a lo mid).merge (seg a mid hi) le3 := by
  have b3 := h.b3
  have e := h.mer
  rw [seg_nil a (Nat.le_refl mid), seg_nil a (Nat.le_refl hi), List.nil_merge, List.append_nil, show mid + (hi - mid) = hi by omega] at e
  exact e

def Runs (w : Nat) (d : Array R3) : Prop := ∀ q, Srt (seg d (q * w) (min ((q + 1) * w) d.size))

theorem runs_one (d : Array R3) : Runs 1 d := by
  intro q
  by_cases h : q < d.size
  · rw [show min ((q + 1) * 1) d.size = q + 1 by omega, show q * 1 = q by omega, seg_snoc d (Nat.le_refl q) h, seg_nil d (Nat.le_refl q)]
    exact List.pairwise_singleton _ _
  · rw [seg_out d (by omega)]
    exact List.Pairwise.nil

/-- the pass in hand: t holds a's runs of w merged two by two, below place q * (2w) -/
structure Ps (a t : Array R3) (w q : Nat) : Prop where
  sz : t.size = a.size
  perm : (seg t 0 (min (q * (2 * w)) a.size)).Perm (seg a 0 (min (q * (2 * w)) a.size))
  runs : ∀ r, r < q → Srt (seg t (r * (2 * w)) (min ((r + 1) * (2 * w)) a.size))

theorem Ps.start {a t : Array R3} {w : Nat} (h : t.size = a.size) : Ps a t w 0 :=
  ⟨h, by rw [Nat.zero_mul, Nat.zero_min, seg_nil t (Nat.le_refl 0), seg_nil a (Nat.le_refl 0)], fun _ h => absurd h (Nat.not_lt_zero _)⟩

theorem Ps.step {a t0 t : Array R3} {w q mid hi : Nat} (h : Ps a t0 w q) (hr : Runs w a) (hlo : q * (2 * w) < a.size) (hmid : mid = min (q * (2 * w) + w) a.size) (hhi : hi = min (q * (2 * w) + 2 * w) a.size)
    (hm : Mg a t0 t (q * (2 * w)) mid hi mid hi) : Ps a t w (q + 1) := by
  have e2 : (q + 1) * (2 * w) = q * (2 * w) + 2 * w := by rw [Nat.succ_mul]
  have el : min (q * (2 * w)) a.size = q * (2 * w) := by omega
  have ha := hm.all
  have hb1 := hm.b2; have hb2 := hm.b4; have hb0 := hm.b1
  have hbm : q * (2 * w) ≤ mid := by omega
  have hbh : mid ≤ hi := by omega
  have h1 := hr (2 * q)
  have h2 := hr (2 * q + 1)
  rw [show 2 * q * w = q * (2 * w) by rw [Nat.mul_comm 2 q, Nat.mul_assoc], show (2 * q + 1) * w = q * (2 * w) + w by rw [Nat.succ_mul, Nat.mul_comm 2 q, Nat.mul_assoc], ← hmid] at h1
  rw [show (2 * q + 1 + 1) * w = q * (2 * w) + 2 * w by rw [Nat.succ_mul, Nat.succ_mul, Nat.mul_comm 2 q, Nat.mul_assoc]; omega, show (2 * q + 1) * w = q * (2 * w) + w by rw [Nat.succ_mul, Nat.mul_comm 2 q, Nat.mul_assoc], ← hhi] at h2
  have h2' : Srt (seg a mid hi) := by
    by_cases hc : q * (2 * w) + w ≤ a.size
    · rw [show mid = q * (2 * w) + w by omega]
      exact h2
    · rw [seg_out a (by omega)]
      exact List.Pairwise.nil
  refine ⟨hm.sz, ?_, fun r hr' => ?_⟩
  · rw [e2, ← hhi, ← seg_app t (Nat.zero_le _) (by omega : q * (2 * w) ≤ hi), ← seg_app a (Nat.zero_le _) (by omega : q * (2 * w) ≤ hi), hm.low 0 _ (Nat.le_refl _), ha]
    have hp := h.perm
    rw [el] at hp
    refine List.Perm.append hp ?_
    rw [← seg_app a hbm hbh]
    exact List.merge_perm_append le3
  · by_cases hq : r = q
    · subst hq
      rw [e2, ← hhi, ha]
      exact List.pairwise_merge le3_trans le3_total _ _ h1 h2'
    · have hrq : (r + 1) * (2 * w) ≤ q * (2 * w) := Nat.mul_le_mul_right _ (by omega)
      rw [hm.low _ _ (by omega)]
      exact h.runs r (by omega)

theorem Ps.step_at {a t0 t : Array R3} {w q lo mid hi : Nat} (h : Ps a t0 w q) (hl : lo = q * (2 * w)) (hr : Runs w a) (hlo : lo < a.size) (hmid : mid = min (lo + w) a.size) (hhi : hi = min (lo + 2 * w) a.size)
    (hm : Mg a t0 t lo mid hi mid hi) : Ps a t w (q + 1) := by
  subst hl
  exact h.step hr hlo hmid hhi hm

theorem Ps.done {a t : Array R3} {w q : Nat} (h : Ps a t w q) (hq : a.size ≤ q * (2 * w)) : Runs (2 * w) t ∧ t.toList.Perm a.toList := by
  have hs := h.sz
  refine ⟨fun r => ?_, ?_⟩
  · by_cases hr : r < q
    · rw [hs]
      exact h.runs r hr
    · rw [seg_out t (by have : q * (2 * w) ≤ r * (2 * w) := Nat.mul_le_mul_right _ (by omega); omega)]
      exact List.Pairwise.nil
  · have hp := h.perm
    rw [show min (q * (2 * w)) a.size = a.size by omega, seg_all a, ← hs, seg_all t] at hp
    exact hp

theorem Runs.srt {w : Nat} {d : Array R3} (h : Runs w d) (hw : d.size ≤ w) : Srt d.toList := by
  have h0 := h 0
  rw [Nat.zero_mul, show min ((0 + 1) * w) d.size = d.size by omega, seg_all] at h0
  exact h0

/-! what the laws lean on -/
theorem srt_of_get {d : Array R3} {lt : R3 → R3 → Bool} (h : SortedIn lt 0 d.size d) : d.toList.Pairwise fun x y => lt y x = false := by
  rw [List.pairwise_iff_getElem]
  intro i j hi hj hij
  have := h i j (Nat.zero_le _) hij (by simpa using hj)
  rw [bang_get d (by simpa using hj), bang_get d (by simpa using hi)] at this
  simpa using this
theorem perm_of_in {d d' : Array R3} (h : PermIn 0 d.size d d') : d'.toList.Perm d.toList := by
  have h1 := h.2.2
  have hs := h.1
  rw [show d'.extract 0 d.size = d' by rw [← hs]; simp, show d.extract 0 d.size = d by simp] at h1
  exact h1

/-- where no two neighbours of the sorted keys share chunk and peer, whatever is ordered by chunk and peer and holds the same is the keys -/
theorem same_keys {k o : List R3} (hk : Srt k) (hn : ∀ i (h : i + 1 < k.length), ¬ (k[i + 1].1 = k[i].1 ∧ k[i + 1].2.1 = k[i].2.1)) (ho : o.Pairwise fun x y => lt2 y x = false) (hp : o.Perm k) : o = k := by
  have hst : ∀ (d i : Nat) (h : i + 1 + d < k.length), lt2 k[i] k[i + 1 + d] = true := by
    intro d
    induction d with
    | zero =>
      intro i h
      have h1 := (List.pairwise_iff_getElem.1 hk) i (i + 1) (by omega) (by omega) (by omega)
      have h2 := hn i (by omega)
      rw [le3_iff] at h1
      rw [lt2_iff]
      simp only [Nat.add_zero] at *
      omega
    | succ d ih =>
      intro i h
      have h1 := ih i (by omega)
      have h2 := (List.pairwise_iff_getElem.1 hk) (i + 1 + d) (i + 1 + (d + 1)) (by omega) (by omega) (by omega)
      rw [le3_iff] at h2
      rw [lt2_iff] at *
      omega
  have hk2 : k.Pairwise fun x y => lt2 x y = true := by
    rw [List.pairwise_iff_getElem]
    intro i j hi hj hij
    have := hst (j - (i + 1)) i (by omega)
    simpa [show i + 1 + (j - (i + 1)) = j by omega] using this
  have hk3 : k.Pairwise fun x y => lt2 y x = false := by
    rw [List.pairwise_iff_getElem]
    intro i j hi hj hij
    have h := (List.pairwise_iff_getElem.1 hk2) i j hi hj hij
    rw [lt2_iff] at h
    rw [lt2_not]
    omega
  refine List.Perm.eq_of_pairwise (le := fun x y => lt2 y x = false) (fun x y hx hy h1 h2 => ?_) ho hk3 hp
  have hx' : x ∈ k := hp.mem_iff.1 hx
  obtain ⟨i, hi, rfl⟩ := List.getElem_of_mem hx'
  obtain ⟨j, hj, rfl⟩ := List.getElem_of_mem hy
  rcases Nat.lt_trichotomy i j with h | h | h
  · have := (List.pairwise_iff_getElem.1 hk2) i j hi hj h
    rw [h2] at this
    exact absurd this Bool.false_ne_true
  · subst h
    rfl
  · have := (List.pairwise_iff_getElem.1 hk2) j i hj hi h
    rw [h1] at this
    exact absurd this Bool.false_ne_true
end Go.Proofs.Qxb6609202aDoor.Wr
