import Derived.Test.Qxb6003691aBuild
namespace Go.Proofs.Qxb6003691a
open Go.RowKit
set_option linter.unusedVariables false

theorem bytes37 (a0 a1 : Option Addr) (l0 c0 l1 c1 : Nat) (w : World) (h0 : l0 ≤ maxLen) (h1 : l1 ≤ maxLen) :
    Calls Try.prog 37 #[.slice a0 l0 c0, .slice a1 l1 c1] w fun e w' => e = .returned (.bool (decide (l0 + l1 ≤ 1048576))) ∧ w' = w := by
  unfold maxLen at h0 h1
  by_cases x0 : l0 ≤ 1048576
  · by_cases x1 : l1 ≤ 1048576
    · by_cases x2 : l0 + l1 ≤ 1048576
      · rw [decide_eq_true x2]
        go_enter Try.func37, Try.ntmps37
        go_wp2
        go_ret
        exact ⟨rfl, rfl⟩
      · rw [decide_eq_false x2]
        go_enter Try.func37, Try.ntmps37
        go_wp2
        go_ret
        exact ⟨rfl, rfl⟩
    · rw [decide_eq_false (by omega)]
      go_enter Try.func37, Try.ntmps37
      go_wp2
      go_ret
      exact ⟨rfl, rfl⟩
  · rw [decide_eq_false (by omega)]
    go_enter Try.func37, Try.ntmps37
    go_wp2
    go_ret
    exact ⟨rfl, rfl⟩

theorem taken44 (x y : Int × Int) (w : World) :
    Calls Try.prog 44 #[.int .u64 x.1, .int .u32 x.2, .int .u64 y.1, .int .u32 y.2] w fun e w' => e = .returned (.bool (bef x y)) ∧ w' = w := by
  obtain ⟨a, r⟩ := x
  obtain ⟨b, s⟩ := y
  rcases Int.lt_trichotomy a b with h | h | h
  · have h1 : bef (a, r) (b, s) = false := bef_lt h
    rw [h1]
    clear h1
    have h2 : ¬ b < a := by omega
    have h3 : (a == b) = false := by simp; omega
    go_enter Try.func44, Try.ntmps44
    go_wp2
    go_ret
    exact ⟨rfl, rfl⟩
  · subst h
    have h1 : bef (a, r) (a, s) = decide (r < s) := bef_eq rfl
    rw [h1]
    clear h1
    go_enter Try.func44, Try.ntmps44
    go_wp2
    go_ret
    exact ⟨rfl, rfl⟩
  · have h1 : bef (a, r) (b, s) = true := bef_gt h
    rw [h1]
    clear h1
    have h3 : (a == b) = false := by simp; omega
    go_enter Try.func44, Try.ntmps44
    go_wp2
    go_ret
    exact ⟨rfl, rfl⟩

theorem nenil (t e : TypeId) (ht : Try.prog.underlying t = some (.slice e)) (a : Option Addr) (n c : Nat) (w : World) :
    (binOp .neq t (.slice a n c) (.slice none 0 0)).run Try.prog w = .ok (.bool (!a.isNone)) w :=
  run_neq_slice_nil w t e a n c ht

set_option maxHeartbeats 1000000 in
theorem find45 (b1 b2 b3 n c1 c2 c3 : Nat) (f : Nat → Int × Int) (U : Nat → Bool) (x : Int × Int) (w : World)
    (hA : Row w b1 n (fun i => .int .u64 (f i).1)) (hR : Row w b2 n (fun i => .int .u32 (f i).2)) (hU : Row w b3 n (fun i => .bool (U i))) (hn : n ≤ 4096)
    (hx : ∃ i, i < n ∧ U i = false ∧ f i = x) :
    Calls Try.prog 45 #[.slice (some ⟨b1, 0, none⟩) n c1, .slice (some ⟨b2, 0, none⟩) n c2, .int .u64 x.1, .int .u32 x.2, .slice (some ⟨b3, 0, none⟩) n c3] w
      fun e w' => (∃ j : Nat, e = .returned (.int .i64 j) ∧ j < n ∧ U j = false ∧ f j = x) ∧ w' = w := by
  have hne := nenil 33 4 Try.underlying33
  have HX : Hid (∃ i, i < n ∧ U i = false ∧ f i = x) := hx
  clear hx
  go_enter Try.func45, Try.ntmps45
  go_wp2
  go_loop [11] (fun v => ∃ k : Nat, k ≤ n ∧ v = .int .i64 k ∧ ∀ i, i < k → ¬ (U i = false ∧ f i = x)) (fun v => n - (intOf v).toNat)
  case atStart => exact ⟨0, by omega, rfl, fun i hi => absurd hi (by omega)⟩
  case round =>
    obtain ⟨k, hk, rfl, hno⟩ := hrel
    have HN : Hid (∀ i, i < k → ¬ (U i = false ∧ f i = x)) := hno
    clear hno
    have hkn : k < n := by
      rcases Nat.lt_or_ge k n with h | h
      · exact h
      · obtain ⟨i, hi, r⟩ := HX.out
        exact absurd r (HN.out i (by omega))
    have y1 := hA.cell hkn
    have y2 := hR.cell hkn
    have y3 := hU.cell hkn
    clear hA hR hU
    cases hu : U k
    · have step : ¬ f k = x → ∀ i, i < k + 1 → ¬ (U i = false ∧ f i = x) := by
        intro hne i hi
        by_cases e : i = k
        · rw [e]; exact fun h => hne h.2
        · exact HN.out i (by omega)
      have ST : Hid (¬ f k = x → ∀ i, i < k + 1 → ¬ (U i = false ∧ f i = x)) := step
      clear step
      by_cases e1 : (f k).1 = x.1
      · by_cases e2 : (f k).2 = x.2
        · have E : Hid (f k = x) := Prod.ext e1 e2
          have HU : Hid (U k = false) := hu
          have d1 : ((f k).1 == x.1) = true := by simp [e1]
          have d2 : ((f k).2 == x.2) = true := by simp [e2]
          rw [hu] at y3
          clear e1 e2 hu
          go_wp2
          go_ret
          exact ⟨⟨k, rfl, hkn, HU.out, E.out⟩, rfl⟩
        · have NE : Hid (¬ f k = x) := fun h => e2 (by rw [h])
          have d1 : ((f k).1 == x.1) = true := by simp [e1]
          have d2 : ((f k).2 == x.2) = false := by simp [e2]
          rw [hu] at y3
          clear e1 e2 hu
          go_wp2
          go_round
          case rel => exact ⟨k + 1, by omega, by go_num, ST.out NE.out⟩
          case measure => simp [intOf]; omega
      · have NE : Hid (¬ f k = x) := fun h => e1 (by rw [h])
        have d1 : ((f k).1 == x.1) = false := by simp [e1]
        rw [hu] at y3
        clear e1 hu
        go_wp2
        go_round
        case rel => exact ⟨k + 1, by omega, by go_num, ST.out NE.out⟩
        case measure => simp [intOf]; omega
    · have ST : Hid (∀ i, i < k + 1 → ¬ (U i = false ∧ f i = x)) := by
        intro i hi
        by_cases e : i = k
        · rw [e, hu]; simp
        · exact HN.out i (by omega)
      rw [hu] at y3
      clear hu
      go_wp2
      go_round
      case rel => exact ⟨k + 1, by omega, by go_num, ST.out⟩
      case measure => simp [intOf]; omega
end Go.Proofs.Qxb6003691a
