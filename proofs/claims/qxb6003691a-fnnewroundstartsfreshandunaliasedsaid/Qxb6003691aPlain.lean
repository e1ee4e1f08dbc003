namespace Go.Proofs.Qxb6003691a

/-- x is taken before y: the higher allowance, then the lower rank. -/
def bef (x y : Int × Int) : Bool := decide (y.1 < x.1) || (x.1 == y.1 && decide (x.2 < y.2))

theorem bef_gt {x y : Int × Int} (h : y.1 < x.1) : bef x y = true := by simp [bef, h]
theorem bef_lt {x y : Int × Int} (h : x.1 < y.1) : bef x y = false := by simp [bef]; omega
theorem bef_eq {x y : Int × Int} (h : x.1 = y.1) : bef x y = decide (x.2 < y.2) := by simp [bef, h]

theorem bef_t {x y : Int × Int} : bef x y = true ↔ y.1 < x.1 ∨ (x.1 = y.1 ∧ x.2 < y.2) := by simp [bef]
theorem bef_f {x y : Int × Int} : bef x y = false ↔ ¬ (y.1 < x.1 ∨ (x.1 = y.1 ∧ x.2 < y.2)) := by
  rw [← bef_t]; simp
theorem bef_irrefl (x : Int × Int) : bef x x = false := by rw [bef_f]; omega
theorem bef_asymm {x y : Int × Int} (h : bef x y = true) : bef y x = false := by rw [bef_t] at h; rw [bef_f]; omega
/-- x is not behind y, y is not behind z. -/
theorem bef_trans {x y z : Int × Int} (h1 : bef y x = false) (h2 : bef z y = false) : bef z x = false := by rw [bef_f] at *; omega
theorem bef_trans' {x y z : Int × Int} (h1 : bef x y = true) (h2 : bef z y = false) : bef z x = false := bef_trans (bef_asymm h1) h2
theorem bef_antisymm {x y : Int × Int} (h1 : bef x y = false) (h2 : bef y x = false) : x = y := by
  rw [bef_f] at *
  have : x.1 = y.1 := by omega
  have : x.2 = y.2 := by omega
  exact Prod.ext (by omega) (by omega)

/-- f, at i turned to v. -/
def upd (f : Nat → Int × Int) (i : Nat) (v : Int × Int) : Nat → Int × Int := fun j => if j = i then v else f j
theorem upd_same (f : Nat → Int × Int) (i : Nat) (v : Int × Int) : upd f i v i = v := by simp [upd]
theorem upd_other (f : Nat → Int × Int) {i j : Nat} (h : j ≠ i) (v : Int × Int) : upd f i v j = f j := by simp [upd, h]

/-- How often x stands among the first n entries. -/
def cnt (f : Nat → Int × Int) : Nat → Int × Int → Nat
  | 0, _ => 0
  | n + 1, x => cnt f n x + if f n = x then 1 else 0

theorem cnt_congr {f g : Nat → Int × Int} {n : Nat} (h : ∀ i, i < n → f i = g i) (x : Int × Int) : cnt f n x = cnt g n x := by
  induction n with
  | zero => rfl
  | succ n ih => simp only [cnt]; rw [ih (fun i hi => h i (by omega)), h n (by omega)]

theorem cnt_upd (f : Nat → Int × Int) {i n : Nat} (hi : i < n) (v x : Int × Int) :
    cnt (upd f i v) n x + (if f i = x then 1 else 0) = cnt f n x + (if v = x then 1 else 0) := by
  induction n with
  | zero => omega
  | succ n ih =>
    simp only [cnt]
    by_cases e : i = n
    · subst e
      rw [upd_same, cnt_congr (g := f) (fun j hj => upd_other f (by omega) v)]
      omega
    · rw [upd_other f (by omega)]
      have := ih (by omega)
      omega

theorem cnt_pos {f : Nat → Int × Int} {n : Nat} {x : Int × Int} : 0 < cnt f n x ↔ ∃ i, i < n ∧ f i = x := by
  induction n with
  | zero => simp [cnt]
  | succ n ih =>
    simp only [cnt]
    by_cases e : f n = x
    · simp only [e, if_true]
      exact ⟨fun _ => ⟨n, by omega, e⟩, fun _ => by omega⟩
    · simp only [e, if_false, Nat.add_zero, ih]
      constructor
      · rintro ⟨i, hi, h⟩; exact ⟨i, by omega, h⟩
      · rintro ⟨i, hi, h⟩
        refine ⟨i, ?_, h⟩
        have : i ≠ n := by rintro rfl; exact e h
        omega

/-- Among the first n entries none is taken before its parent, if that parent's index is t or more. -/
def HFrom (n t : Nat) (g : Nat → Int × Int) : Prop := ∀ i, 1 ≤ i → i < n → t ≤ (i - 1) / 4 → bef (g i) (g ((i - 1) / 4)) = false

theorem HFrom.congr {n t : Nat} {f g : Nat → Int × Int} (h : HFrom n t f) (e : ∀ i, i < n → f i = g i) : HFrom n t g := by
  intro i h1 h2 h3
  rw [← e i h2, ← e _ (by omega)]
  exact h i h1 h2 h3

/-- The m-th ancestor. -/
def anc : Nat → Nat → Nat
  | 0, k => k
  | m + 1, k => anc m ((k - 1) / 4)
theorem anc_le (m k : Nat) : anc m k ≤ k := by
  induction m generalizing k with
  | zero => exact Nat.le_refl _
  | succ m ih => have := ih ((k - 1) / 4); simp only [anc]; omega

/-- The entry e has been taken out of the heap, below t; the hole is at k. -/
structure Hole (n t k : Nat) (e : Int × Int) (f g : Nat → Int × Int) : Prop where
  lt : k < n
  sub : ∃ m, anc m k = t
  pairs : ∀ i, 1 ≤ i → i < n → t ≤ (i - 1) / 4 → i ≠ k → (i - 1) / 4 ≠ k → bef (g i) (g ((i - 1) / 4)) = false
  grand : t < k → ∀ c, 1 ≤ c → c < n → (c - 1) / 4 = k → bef (g c) (g ((k - 1) / 4)) = false
  same : ∀ x, cnt (upd g k e) n x = cnt f n x

theorem Hole.le {n t k : Nat} {e : Int × Int} {f g : Nat → Int × Int} (h : Hole n t k e f g) : t ≤ k := by
  obtain ⟨m, hm⟩ := h.sub
  have := anc_le m k
  omega

theorem Hole.parent {n t k : Nat} {e : Int × Int} {f g : Nat → Int × Int} (h : Hole n t k e f g) (hk : t < k) : t ≤ (k - 1) / 4 ∧ ∃ m, anc m ((k - 1) / 4) = t := by
  obtain ⟨m, hm⟩ := h.sub
  cases m with
  | zero => simp only [anc] at hm; omega
  | succ m =>
    simp only [anc] at hm
    have := anc_le m ((k - 1) / 4)
    exact ⟨by omega, m, hm⟩

theorem Hole.start {n t : Nat} {f : Nat → Int × Int} (ht : t < n) (h : HFrom n (t + 1) f) : Hole n t t (f t) f f where
  lt := ht
  sub := ⟨0, rfl⟩
  pairs := fun i h1 h2 h3 h4 h5 => h i h1 h2 (by omega)
  grand := fun h => absurd h (by omega)
  same := fun x => cnt_congr (fun i _ => by unfold upd; split <;> simp_all) x

theorem Hole.sink {n t k nx : Nat} {e : Int × Int} {f g : Nat → Int × Int} (h : Hole n t k e f g) (h1 : 4 * k + 1 ≤ nx) (h2 : nx < 4 * k + 5) (h3 : nx < n)
    (best : ∀ j, 4 * k + 1 ≤ j → j < 4 * k + 5 → j < n → bef (g j) (g nx) = false) : Hole n t nx e f (upd g k (g nx)) where
  lt := h3
  sub := by
    obtain ⟨m, hm⟩ := h.sub
    refine ⟨m + 1, ?_⟩
    simp only [anc]
    rw [show (nx - 1) / 4 = k by omega]
    exact hm
  pairs := by
    intro i i1 i2 i3 i4 i5
    by_cases e1 : (i - 1) / 4 = k
    · rw [e1, upd_same, upd_other _ (by omega)]
      exact best i (by omega) (by omega) i2
    · by_cases e2 : i = k
      · subst e2
        rw [upd_same, upd_other _ e1]
        have := h.le
        exact h.grand (by omega) nx (by omega) h3 (by omega)
      · rw [upd_other _ e2, upd_other _ e1]
        exact h.pairs i i1 i2 i3 e2 e1
  grand := by
    intro _ c c1 c2 c3
    rw [show (nx - 1) / 4 = k by omega, upd_same, upd_other _ (by omega)]
    have := h.pairs c c1 c2 (by have := h.le; omega) (by omega) (by omega)
    rwa [c3] at this
  same := by
    intro x
    have a1 := cnt_upd (upd g k (g nx)) h3 e x
    have a2 := cnt_upd g h.lt (g nx) x
    have a3 := cnt_upd g h.lt e x
    have a4 := h.same x
    rw [upd_other _ (by omega)] at a1
    omega

theorem Hole.rise {n t k : Nat} {e : Int × Int} {f g : Nat → Int × Int} (h : Hole n t k e f g) (hk : t < k) (hb : bef e (g ((k - 1) / 4)) = true) :
    Hole n t ((k - 1) / 4) e f (upd g k (g ((k - 1) / 4))) where
  lt := by have := h.lt; omega
  sub := (h.parent hk).2
  pairs := by
    intro i i1 i2 i3 i4 i5
    have hp := (h.parent hk).1
    by_cases e2 : i = k
    · exact absurd (by rw [e2]) i5
    · by_cases e1 : (i - 1) / 4 = k
      · rw [e1, upd_same, upd_other _ e2]
        exact h.grand hk i i1 i2 e1
      · rw [upd_other _ e2, upd_other _ e1]
        exact h.pairs i i1 i2 i3 e2 e1
  grand := by
    intro hp c c1 c2 c3
    have hq := h.pairs ((k - 1) / 4) (by omega) (by have := h.lt; omega) (by
      obtain ⟨m, hm⟩ := (h.parent hk).2
      cases m with
      | zero => simp only [anc] at hm; omega
      | succ m => simp only [anc] at hm; have := anc_le m (((k - 1) / 4 - 1) / 4); omega) (by omega) (by omega)
    rw [upd_other (j := ((k - 1) / 4 - 1) / 4) _ (by omega)]
    by_cases e2 : c = k
    · subst e2
      rw [upd_same]
      exact hq
    · rw [upd_other _ e2]
      have := h.pairs c c1 c2 (by omega) e2 (by omega)
      rw [c3] at this
      exact bef_trans hq this
  same := by
    intro x
    have a1 := cnt_upd (upd g k (g ((k - 1) / 4))) (i := (k - 1) / 4) (n := n) (by have := h.lt; omega) e x
    have a2 := cnt_upd g h.lt (g ((k - 1) / 4)) x
    have a3 := cnt_upd g h.lt e x
    have a4 := h.same x
    rw [upd_other _ (by omega)] at a1
    omega

/-- No child of the hole is taken before e. -/
def Kids (n k : Nat) (e : Int × Int) (g : Nat → Int × Int) : Prop := ∀ c, 1 ≤ c → c < n → (c - 1) / 4 = k → bef (g c) e = false

theorem Kids.leaf {n k : Nat} {e : Int × Int} {g : Nat → Int × Int} (h : n ≤ 4 * k + 1) : Kids n k e g := by
  intro c c1 c2 c3
  omega

theorem Kids.rise {n t k : Nat} {e : Int × Int} {f g : Nat → Int × Int} (h : Hole n t k e f g) (hk : t < k) (hb : bef e (g ((k - 1) / 4)) = true) :
    Kids n ((k - 1) / 4) e (upd g k (g ((k - 1) / 4))) := by
  intro c c1 c2 c3
  by_cases e2 : c = k
  · subst e2
    rw [upd_same]
    exact bef_asymm hb
  · rw [upd_other _ e2]
    have hp := (h.parent hk).1
    have := h.pairs c c1 c2 (by omega) e2 (by omega)
    rw [c3] at this
    exact bef_trans' hb this

/-- What down leaves. -/
def DownOk (n t : Nat) (f g : Nat → Int × Int) : Prop := HFrom n t g ∧ ∀ x, cnt g n x = cnt f n x

theorem Hole.fill {n t k : Nat} {e : Int × Int} {f g : Nat → Int × Int} (h : Hole n t k e f g) (hk : Kids n k e g) (hb : k ≤ t ∨ bef e (g ((k - 1) / 4)) = false) :
    DownOk n t f (upd g k e) := by
  refine ⟨?_, h.same⟩
  intro i i1 i2 i3
  by_cases e1 : (i - 1) / 4 = k
  · rw [e1, upd_same, upd_other _ (by omega)]
    exact hk i i1 i2 e1
  · rw [upd_other (j := (i - 1) / 4) _ e1]
    by_cases e2 : i = k
    · subst e2
      rw [upd_same]
      rcases hb with hb | hb
      · omega
      · exact hb
    · rw [upd_other _ e2]
      exact h.pairs i i1 i2 i3 e2 e1

/-- What dropFirst leaves. -/
def DropOk (m : Nat) (f g : Nat → Int × Int) : Prop := HFrom m 0 g ∧ ∀ x, cnt g m x + (if f 0 = x then 1 else 0) = cnt f (m + 1) x

theorem drop_zero (f g : Nat → Int × Int) : DropOk 0 f g := ⟨fun i h1 h2 => absurd h2 (by omega), fun x => by simp [cnt]⟩
theorem drop_start {m : Nat} {f : Nat → Int × Int} (h : HFrom (m + 1) 0 f) : HFrom m 1 (upd f 0 (f m)) := by
  intro i h1 h2 h3
  rw [upd_other _ (by omega), upd_other _ (by omega)]
  exact h i h1 (by omega) (by omega)
theorem drop_end {m : Nat} {f g : Nat → Int × Int} (hm : 0 < m) (h : DownOk m 0 (upd f 0 (f m)) g) : DropOk m f g := by
  refine ⟨h.1, fun x => ?_⟩
  rw [h.2 x]
  have := cnt_upd f hm (f m) x
  simp only [cnt]
  omega

/-- The first k entries are laid. -/
def PartE (f : Nat → Int × Int) (k : Nat) : Nat → Int × Int := fun j => if j < k then f j else (0, 0)
theorem PartE.zero (f : Nat → Int × Int) (i : Nat) : (fun _ => ((0, 0) : Int × Int)) i = PartE f 0 i := by simp [PartE]
theorem PartE.step (f : Nat → Int × Int) (k i : Nat) : upd (PartE f k) k (f k) i = PartE f (k + 1) i := by
  unfold upd PartE
  by_cases h : i = k
  · subst h; simp
  · by_cases h1 : i < k
    · rw [if_neg h, if_pos h1, if_pos (by omega)]
    · rw [if_neg h, if_neg h1, if_neg (by omega)]
theorem PartE.all (f : Nat → Int × Int) (n i : Nat) (h : i < n) : PartE f n i = f i := by simp [PartE, h]

theorem HFrom.leafs (n : Nat) (f : Nat → Int × Int) : HFrom n ((n - 2) / 4 + 1) f := by
  intro i h1 h2 h3
  omega

theorem HFrom.one {n t : Nat} (f : Nat → Int × Int) (h : n ≤ 1) : HFrom n t f := by
  intro i h1 h2 h3
  omega

/-- What heapify leaves. -/
def Built (n : Nat) (f g : Nat → Int × Int) : Prop := HFrom n 0 g ∧ ∀ x, cnt g n x = cnt f n x


/-- The root of a heap: no entry is taken before it. -/
theorem HFrom.root {m : Nat} {g : Nat → Int × Int} (h : HFrom m 0 g) : ∀ i, i < m → bef (g i) (g 0) = false := by
  intro i
  induction i using Nat.strongRecOn with
  | ind i ih =>
    intro hi
    by_cases h0 : i = 0
    · rw [h0]; exact bef_irrefl _
    · exact bef_trans (ih ((i - 1) / 4) (by omega) (by omega)) (h i (by omega) hi (by omega))

/-- k entries have been taken off the heap (o), m are left (g). -/
structure Drain (n k m : Nat) (f g o : Nat → Int × Int) : Prop where
  eq : k + m = n
  heap : HFrom m 0 g
  sum : ∀ x, cnt g m x + cnt o k x = cnt f n x
  sorted : ∀ j, 1 ≤ j → j < k → bef (o j) (o (j - 1)) = false
  last : 0 < k → ∀ i, i < m → bef (g i) (o (k - 1)) = false

theorem Drain.start {n : Nat} {f g : Nat → Int × Int} (o : Nat → Int × Int) (h : Built n f g) : Drain n 0 n f g o where
  eq := by omega
  heap := h.1
  sum := fun x => by simp only [cnt, Nat.add_zero]; exact h.2 x
  sorted := fun j h1 h2 => absurd h2 (by omega)
  last := fun h => absurd h (by omega)

theorem Drain.step {n k m : Nat} {f g g' o : Nat → Int × Int} (h : Drain n k (m + 1) f g o) (hd : DropOk m g g') : Drain n (k + 1) m f g' (upd o k (g 0)) where
  eq := by have := h.eq; omega
  heap := hd.1
  sum := fun x => by
    have h1 := h.sum x
    have h2 := hd.2 x
    simp only [cnt, upd_same]
    rw [cnt_congr (g := o) (fun i hi => upd_other o (by omega) _)]
    omega
  sorted := fun j h1 h2 => by
    by_cases e : j = k
    · subst e
      rw [upd_same, upd_other _ (by omega)]
      exact h.last (by omega) 0 (by omega)
    · rw [upd_other _ e, upd_other _ (by omega)]
      exact h.sorted j h1 (by omega)
  last := fun _ i hi => by
    rw [show k + 1 - 1 = k by omega, upd_same]
    have h1 : 0 < cnt g' m (g' i) := cnt_pos.2 ⟨i, hi, rfl⟩
    have h2 := hd.2 (g' i)
    obtain ⟨j, hj, e⟩ := cnt_pos.1 (show 0 < cnt g (m + 1) (g' i) by omega)
    rw [← e]
    exact h.heap.root j hj

/-- How often x stands among the first n entries that are not marked. -/
def cntU (f : Nat → Int × Int) (U : Nat → Bool) : Nat → Int × Int → Nat
  | 0, _ => 0
  | n + 1, x => cntU f U n x + if U n = false ∧ f n = x then 1 else 0
def bupd (U : Nat → Bool) (i : Nat) : Nat → Bool := fun j => if j = i then true else U j
theorem cntU_none (f : Nat → Int × Int) (n : Nat) (x : Int × Int) : cntU f (fun _ => false) n x = cnt f n x := by
  induction n with
  | zero => rfl
  | succ n ih => simp [cntU, cnt, ih]
theorem cntU_congr {f : Nat → Int × Int} {U V : Nat → Bool} {n : Nat} (h : ∀ i, i < n → U i = V i) (x : Int × Int) : cntU f U n x = cntU f V n x := by
  induction n with
  | zero => rfl
  | succ n ih => simp only [cntU]; rw [ih (fun i hi => h i (by omega)), h n (by omega)]
theorem cntU_pos {f : Nat → Int × Int} {U : Nat → Bool} {n : Nat} {x : Int × Int} (h : 0 < cntU f U n x) : ∃ i, i < n ∧ U i = false ∧ f i = x := by
  induction n with
  | zero => simp [cntU] at h
  | succ n ih =>
    simp only [cntU] at h
    by_cases e : U n = false ∧ f n = x
    · exact ⟨n, by omega, e.1, e.2⟩
    · rw [if_neg e] at h
      obtain ⟨i, hi, r⟩ := ih (by omega)
      exact ⟨i, by omega, r⟩
theorem cntU_mark {f : Nat → Int × Int} {U : Nat → Bool} {n j : Nat} (hj : j < n) (hU : U j = false) (x : Int × Int) :
    cntU f (bupd U j) n x + (if f j = x then 1 else 0) = cntU f U n x := by
  induction n with
  | zero => omega
  | succ n ih =>
    simp only [cntU]
    by_cases e : j = n
    · subst e
      rw [cntU_congr (V := U) (fun i hi => by simp only [bupd]; rw [if_neg (by omega)])]
      simp [bupd, hU]
    · have := ih (by omega)
      have e2 : bupd U j n = U n := by simp only [bupd]; rw [if_neg (by omega)]
      rw [e2]
      omega

/-- The first k entries of o have each been found among f and marked. -/
def Marks (n k : Nat) (f o : Nat → Int × Int) (U : Nat → Bool) : Prop := ∀ x, cntU f U n x + cnt o k x = cnt o n x
theorem cnt_mono {o : Nat → Int × Int} {k n : Nat} (h : k ≤ n) (x : Int × Int) : cnt o k x ≤ cnt o n x := by
  induction n with
  | zero => rw [show k = 0 by omega]; exact Nat.le_refl _
  | succ n ih =>
    by_cases e : k = n + 1
    · rw [e]; exact Nat.le_refl _
    · have := ih (by omega)
      simp only [cnt]
      omega
theorem Marks.start {n : Nat} {f o : Nat → Int × Int} (h : ∀ x, cnt o n x = cnt f n x) : Marks n 0 f o (fun _ => false) := by
  intro x
  rw [cntU_none, h x]
  simp [cnt]
theorem Marks.there {n k : Nat} {f o : Nat → Int × Int} {U : Nat → Bool} (h : Marks n k f o U) (hk : k < n) : ∃ i, i < n ∧ U i = false ∧ f i = o k := by
  have h1 := h (o k)
  have h2 := cnt_mono (o := o) (k := k + 1) (n := n) (by omega) (o k)
  simp [cnt] at h2
  exact cntU_pos (by omega)
theorem Marks.step {n k j : Nat} {f o : Nat → Int × Int} {U : Nat → Bool} (h : Marks n k f o U) (hj : j < n) (hU : U j = false) (hf : f j = o k) : Marks n (k + 1) f o (bupd U j) := by
  intro x
  have h1 := h x
  have h2 := cntU_mark (f := f) hj hU x
  simp only [cnt]
  rw [hf] at h2
  omega

end Go.Proofs.Qxb6003691a
