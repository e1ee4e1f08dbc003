import Derived.Test.Qxb6003691aPlain
namespace Go.Proofs.Qxb6003691a

/-- g is f in taking order. -/
def Sorted (n : Nat) (f g : Nat → Int × Int) : Prop := (∀ j, 1 ≤ j → j < n → bef (g j) (g (j - 1)) = false) ∧ ∀ x, cnt g n x = cnt f n x

theorem sorted_le {n : Nat} {g : Nat → Int × Int} (h : ∀ j, 1 ≤ j → j < n → bef (g j) (g (j - 1)) = false) {k i : Nat} (hk : k ≤ i) (hi : i < n) : bef (g i) (g k) = false := by
  induction i with
  | zero => rw [show k = 0 by omega]; exact bef_irrefl _
  | succ i ih =>
    by_cases e : k = i + 1
    · rw [e]; exact bef_irrefl _
    · have h1 := ih (by omega) (by omega)
      have h2 := h (i + 1) (by omega) hi
      rw [show i + 1 - 1 = i by omega] at h2
      exact bef_trans h1 h2

theorem cnt_between {g : Nat → Int × Int} {k n : Nat} {x : Int × Int} (h : cnt g k x < cnt g n x) : ∃ i, k ≤ i ∧ i < n ∧ g i = x := by
  induction n with
  | zero => simp [cnt] at h
  | succ n ih =>
    by_cases hk : k ≤ n
    · by_cases e : g n = x
      · exact ⟨n, hk, by omega, e⟩
      · simp only [cnt, e, if_false, Nat.add_zero] at h
        obtain ⟨i, h1, h2, h3⟩ := ih h
        exact ⟨i, h1, by omega, h3⟩
    · have := cnt_mono (o := g) (k := n + 1) (n := k) (by omega) x
      omega

/-- k entries have been taken off the heap, just the first k of g; m are left (q). -/
structure Left (n k m : Nat) (g q : Nat → Int × Int) : Prop where
  eq : k + m = n
  heap : HFrom m 0 q
  sum : ∀ x, cnt q m x + cnt g k x = cnt g n x

theorem Left.first {n k m : Nat} {g q : Nat → Int × Int} (h : Left n k m g q) (hs : ∀ j, 1 ≤ j → j < n → bef (g j) (g (j - 1)) = false) (hm : 0 < m) : q 0 = g k := by
  have hkn : k < n := by have := h.eq; omega
  apply bef_antisymm
  · have h1 : 0 < cnt q m (q 0) := cnt_pos.2 ⟨0, hm, rfl⟩
    obtain ⟨i, i1, i2, i3⟩ := cnt_between (g := g) (k := k) (n := n) (x := q 0) (by have := h.sum (q 0); omega)
    rw [← i3]
    exact sorted_le hs i1 i2
  · have h1 := cnt_mono (o := g) (k := k + 1) (n := n) (by omega) (g k)
    simp [cnt] at h1
    have h2 := h.sum (g k)
    obtain ⟨i, hi, e⟩ := cnt_pos.1 (show 0 < cnt q m (g k) by omega)
    rw [← e]
    exact h.heap.root i hi

theorem Left.start {n : Nat} {f g q : Nat → Int × Int} (h : HFrom n 0 q) (h1 : ∀ x, cnt q n x = cnt f n x) (h2 : ∀ x, cnt g n x = cnt f n x) : Left n 0 n g q where
  eq := by omega
  heap := h
  sum := fun x => by simp only [cnt, Nat.add_zero]; rw [h1, h2]

theorem Left.step {n k m : Nat} {g q q' : Nat → Int × Int} (h : Left n k (m + 1) g q) (hs : ∀ j, 1 ≤ j → j < n → bef (g j) (g (j - 1)) = false) (hd : DropOk m q q') : Left n (k + 1) m g q' where
  eq := by have := h.eq; omega
  heap := hd.1
  sum := fun x => by
    have h1 := h.sum x
    have h2 := hd.2 x
    rw [h.first hs (by omega)] at h2
    simp only [cnt]
    omega

/-- The insertion: the entry at j is not yet in its place among the first i + 1. -/
structure Ins (n i j : Nat) (f g : Nat → Int × Int) : Prop where
  le : j ≤ i
  pairs : ∀ t, 1 ≤ t → t ≤ i → t ≠ j → bef (g t) (g (t - 1)) = false
  gap : 1 ≤ j → j < i → bef (g (j + 1)) (g (j - 1)) = false
  same : ∀ x, cnt g n x = cnt f n x

theorem Ins.start {n i : Nat} {f g : Nat → Int × Int} (h : ∀ j, 1 ≤ j → j < i → bef (g j) (g (j - 1)) = false) (hc : ∀ x, cnt g n x = cnt f n x) : Ins n i i f g where
  le := Nat.le_refl _
  pairs := fun t t1 t2 t3 => h t t1 (by omega)
  gap := fun _ h => absurd h (by omega)
  same := hc

theorem Ins.step {n i j : Nat} {f g : Nat → Int × Int} (h : Ins n i j f g) (hj : 0 < j) (hin : i < n) (hb : bef (g j) (g (j - 1)) = true) :
    Ins n i (j - 1) f (upd (upd g j (g (j - 1))) (j - 1) (g j)) where
  le := by have := h.le; omega
  pairs := by
    intro t t1 t2 t3
    by_cases e1 : t = j
    · subst e1
      rw [upd_other _ (by omega), upd_same, upd_same]
      exact bef_asymm hb
    · by_cases e2 : t = j + 1
      · subst e2
        rw [upd_other _ (by omega), upd_other _ (by omega)]
        rw [show j + 1 - 1 = j by omega, upd_other _ (by omega), upd_same]
        exact h.gap (by omega) (by omega)
      · rw [upd_other _ (by omega), upd_other _ (by omega), upd_other _ (by omega), upd_other _ (by omega)]
        exact h.pairs t t1 t2 e1
  gap := by
    intro g1 g2
    rw [show j - 1 + 1 = j by omega, upd_other _ (by omega), upd_same, upd_other _ (by omega), upd_other _ (by omega)]
    exact h.pairs (j - 1) (by omega) (by have := h.le; omega) (by omega)
  same := by
    intro x
    have h0 := h.le
    have a1 := cnt_upd (upd g j (g (j - 1))) (i := j - 1) (n := n) (by omega) (g j) x
    have a2 := cnt_upd g (i := j) (n := n) (by omega) (g (j - 1)) x
    have a3 := h.same x
    rw [upd_other _ (by omega)] at a1
    omega

theorem Ins.done {n i j : Nat} {f g : Nat → Int × Int} (h : Ins n i j f g) (hj : j = 0 ∨ bef (g j) (g (j - 1)) = false) : ∀ t, 1 ≤ t → t < i + 1 → bef (g t) (g (t - 1)) = false := by
  intro t t1 t2
  by_cases e : t = j
  · subst e
    rcases hj with hj | hj
    · omega
    · exact hj
  · exact h.pairs t t1 (by omega) e

end Go.Proofs.Qxb6003691a
