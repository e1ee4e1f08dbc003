import Derived.Test.Qxb6003691aG3
namespace Go.Proofs.Qxb6003691a
open Go.RowKit
set_option linter.unusedVariables false

theorem bytes15 (a0 a1 a2 a3 : Option Addr) (l0 c0 l1 c1 l2 c2 l3 c3 : Nat) (w : World) (h0 : l0 ≤ maxLen) (h1 : l1 ≤ maxLen) (h2 : l2 ≤ maxLen) (h3 : l3 ≤ maxLen) :
    Calls Try.prog 15 #[.slice a0 l0 c0, .slice a1 l1 c1, .slice a2 l2 c2, .slice a3 l3 c3] w fun e w' => e = .returned (.bool (decide (l0 + l1 + l2 + l3 ≤ 1048576))) ∧ w' = w := by
  unfold maxLen at h0 h1 h2 h3
  by_cases x0 : l0 ≤ 1048576
  · by_cases x1 : l1 ≤ 1048576
    · by_cases y1 : l0 + l1 ≤ 1048576
      · by_cases x2 : l2 ≤ 1048576
        · by_cases y2 : l0 + l1 + l2 ≤ 1048576
          · by_cases x3 : l3 ≤ 1048576
            · by_cases y3 : l0 + l1 + l2 + l3 ≤ 1048576
              · rw [decide_eq_true y3]
                go_enter Try.func15, Try.ntmps15
                go_wp2
                go_ret
                exact ⟨rfl, rfl⟩
              · rw [decide_eq_false y3]
                go_enter Try.func15, Try.ntmps15
                go_wp2
                go_ret
                exact ⟨rfl, rfl⟩
            · rw [decide_eq_false (by omega)]
              go_enter Try.func15, Try.ntmps15
              go_wp2
              go_ret
              exact ⟨rfl, rfl⟩
          · rw [decide_eq_false (by omega)]
            go_enter Try.func15, Try.ntmps15
            go_wp2
            go_ret
            exact ⟨rfl, rfl⟩
        · rw [decide_eq_false (by omega)]
          go_enter Try.func15, Try.ntmps15
          go_wp2
          go_ret
          exact ⟨rfl, rfl⟩
      · rw [decide_eq_false (by omega)]
        go_enter Try.func15, Try.ntmps15
        go_wp2
        go_ret
        exact ⟨rfl, rfl⟩
    · rw [decide_eq_false (by omega)]
      go_enter Try.func15, Try.ntmps15
      go_wp2
      go_ret
      exact ⟨rfl, rfl⟩
  · rw [decide_eq_false (by omega)]
    go_enter Try.func15, Try.ntmps15
    go_wp2
    go_ret
    exact ⟨rfl, rfl⟩

/-- The heap q and the model u hold the same m entries. -/
structure Agree (m : Nat) (q u : Nat → Int × Int) : Prop where
  heap : HFrom m 0 q
  same : ∀ x, cnt q m x = cnt u m x

theorem Agree.low {m : Nat} {q u : Nat → Int × Int} (h : Agree m q u) {j : Nat} (hj : j < m) : bef (u j) (q 0) = false := by
  have h1 : 0 < cnt u m (u j) := cnt_pos.2 ⟨j, hj, rfl⟩
  rw [← h.same] at h1
  obtain ⟨i, hi, e⟩ := cnt_pos.1 h1
  rw [← e]
  exact h.heap.root i hi
theorem Agree.there {m : Nat} {q u : Nat → Int × Int} (h : Agree m q u) (hm : 0 < m) : ∃ j, j < m ∧ u j = q 0 := by
  have h1 : 0 < cnt q m (q 0) := cnt_pos.2 ⟨0, hm, rfl⟩
  rw [h.same] at h1
  exact cnt_pos.1 h1
theorem Agree.drop {m idx : Nat} {q u q' : Nat → Int × Int} (h : Agree (m + 1) q u) (hi : idx < m + 1) (he : u idx = q 0) (hd : DropOk m q q') : Agree m q' (upd u idx (u m)) where
  heap := hd.1
  same := fun x => by
    have h1 := hd.2 x
    have h2 := h.same x
    by_cases e : idx = m
    · subst e
      rw [cnt_congr (g := u) (fun i hi => upd_other u (by omega) _)]
      simp only [cnt] at h1 h2
      rw [he] at h2
      omega
    · have h3 := cnt_upd u (i := idx) (n := m) (by omega) (u m) x
      simp only [cnt] at h1 h2
      rw [he] at h3
      omega
theorem Agree.turn {m idx : Nat} {q u q' : Nat → Int × Int} (h : Agree m q u) (hm : 0 < m) (hi : idx < m) (he : u idx = q 0) (v : Int) (hd : DownOk m 0 (upd q 0 (v, (q 0).2)) q') : Agree m q' (upd u idx (v, (u idx).2)) where
  heap := hd.1
  same := fun x => by
    have h1 := hd.2 x
    have h2 := h.same x
    have h3 := cnt_upd q hm (v, (q 0).2) x
    have h4 := cnt_upd u hi (v, (u idx).2) x
    rw [he] at h4 ⊢
    omega
theorem turn_start {m : Nat} {q : Nat → Int × Int} (h : HFrom m 0 q) (x : Int × Int) : HFrom m 1 (upd q 0 x) := by
  intro i h1 h2 h3
  rw [upd_other _ (by omega), upd_other _ (by omega)]
  exact h i h1 h2 (by omega)

theorem Two.less {w : World} {ba br n m : Nat} {f : Nat → Int × Int} (h : Two w ba br n f) (hm : m ≤ n) : Two w ba br m f := ⟨h.1.less hm, h.2.less hm⟩
theorem Own.of_some {B : Nat} {w : World} {a : Option Addr} {n : Nat} {F : Nat → Value} (h : Own B w a n F) (ha : a ≠ none) : ∃ b, a = some ⟨b, 0, none⟩ ∧ B ≤ b ∧ Row w b n F := by
  rcases h with ⟨h, _⟩ | ⟨b, h1, h2, h3⟩
  · exact absurd h ha
  · exact ⟨b, h2, h1, h3⟩

theorem setAllowance_zero {w : World} {qb hb n : Nat} {f : Nat → Int × Int} (h : Que w qb hb n f) (hi : 0 < n) (hn : n ≤ 4096) (a : Int) : Calls Try.prog 22 #[.pointer (some ⟨qb, 0, none⟩), .int .i64 0, .int .u64 a] w fun e w' => e = .returned (.tuple #[]) ∧ Que w' qb hb n (upd f 0 (a, (f 0).2)) ∧ Keep (fun b => b = hb) w w' :=
  setAllowance_any h (i := 0) hi hn a
theorem queueDown_zero {w : World} {qb hb n : Nat} {f : Nat → Int × Int} (h : Que w qb hb n f) (ht : 0 < n) (hn : n ≤ 4096) (hH : HFrom n 1 f) :
    Calls Try.prog 23 #[.pointer (some ⟨qb, 0, none⟩), .int .i64 0] w fun e w' => e = .returned (.tuple #[]) ∧ ∃ g, DownOk n 0 f g ∧ Que w' qb hb n g ∧ Keep (fun b => b = hb) w w' :=
  queueDown_any h (t := 0) ht hn hH
end Go.Proofs.Qxb6003691a
