import Derived.Test.Qxb6003691aG4
namespace Go.Proofs.Qxb6003691a
open Go.RowKit
set_option linter.unusedVariables false

set_option maxRecDepth 100000 in
set_option maxHeartbeats 20000000 in
theorem root_early (a0 a1 a2 a3 : Option Addr) (l0 l1 l2 l3 cap0 cap1 cap2 cap3 : Nat) (w : World) (h0 : l0 ≤ maxLen) (h1 : l1 ≤ maxLen) (h2 : l2 ≤ maxLen) (h3 : l3 ≤ maxLen)
    (h : ¬ (l0 ≤ 1024 ∧ l1 ≤ 1024 ∧ l2 ≤ 1024 ∧ l3 ≤ 1024 ∧ l0 = l1 ∧ l2 = l3)) :
    Calls Try.prog 4 #[.slice a0 l0 cap0, .slice a1 l1 cap1, .slice a2 l2 cap2, .slice a3 l3 cap3] w fun e w' => e = .returned (.bool true) ∧ Below w.heap.size w w' := by
  by_cases hs : l0 + l1 + l2 + l3 ≤ 1048576
  · have hd : decide (l0 + l1 + l2 + l3 ≤ 1048576) = true := decide_eq_true hs
    by_cases x8 : 8 * l0 + 8 * l1 + 8 * l2 + 8 * l3 ≤ 1048576
    · by_cases x0 : l0 ≤ 1024
      · by_cases x1 : l1 ≤ 1024
        · by_cases x2 : l2 ≤ 1024
          · by_cases x3 : l3 ≤ 1024
            · by_cases x4 : l0 = l1
              · have hne0 : ((l0 : Int) != (l1 : Int)) = false := by simp; omega
                have hne : ((l2 : Int) != (l3 : Int)) = true := by simp; omega
                clear x4
                go_enter Try.func4, Try.ntmps4
                go_wp2_with (go_at_call 15; refine (bytes15 _ _ _ _ _ _ _ _ _ _ _ _ _ h0 h1 h2 h3).mono ?_; rintro e w' ⟨rfl, rfl⟩)
                go_ret
                exact ⟨rfl, Below.refl _ _⟩
              · have hne : ((l0 : Int) != (l1 : Int)) = true := by simp; omega
                go_enter Try.func4, Try.ntmps4
                go_wp2_with (go_at_call 15; refine (bytes15 _ _ _ _ _ _ _ _ _ _ _ _ _ h0 h1 h2 h3).mono ?_; rintro e w' ⟨rfl, rfl⟩)
                go_ret
                exact ⟨rfl, Below.refl _ _⟩
            · go_enter Try.func4, Try.ntmps4
              go_wp2_with (go_at_call 15; refine (bytes15 _ _ _ _ _ _ _ _ _ _ _ _ _ h0 h1 h2 h3).mono ?_; rintro e w' ⟨rfl, rfl⟩)
              go_ret
              exact ⟨rfl, Below.refl _ _⟩
          · go_enter Try.func4, Try.ntmps4
            go_wp2_with (go_at_call 15; refine (bytes15 _ _ _ _ _ _ _ _ _ _ _ _ _ h0 h1 h2 h3).mono ?_; rintro e w' ⟨rfl, rfl⟩)
            go_ret
            exact ⟨rfl, Below.refl _ _⟩
        · go_enter Try.func4, Try.ntmps4
          go_wp2_with (go_at_call 15; refine (bytes15 _ _ _ _ _ _ _ _ _ _ _ _ _ h0 h1 h2 h3).mono ?_; rintro e w' ⟨rfl, rfl⟩)
          go_ret
          exact ⟨rfl, Below.refl _ _⟩
      · go_enter Try.func4, Try.ntmps4
        go_wp2_with (go_at_call 15; refine (bytes15 _ _ _ _ _ _ _ _ _ _ _ _ _ h0 h1 h2 h3).mono ?_; rintro e w' ⟨rfl, rfl⟩)
        go_ret
        exact ⟨rfl, Below.refl _ _⟩
    · go_enter Try.func4, Try.ntmps4
      go_wp2_with (go_at_call 15; refine (bytes15 _ _ _ _ _ _ _ _ _ _ _ _ _ h0 h1 h2 h3).mono ?_; rintro e w' ⟨rfl, rfl⟩)
      go_ret
      exact ⟨rfl, Below.refl _ _⟩
  · have hd : decide (l0 + l1 + l2 + l3 ≤ 1048576) = false := decide_eq_false hs
    go_enter Try.func4, Try.ntmps4
    go_wp2_with (go_at_call 15; refine (bytes15 _ _ _ _ _ _ _ _ _ _ _ _ _ h0 h1 h2 h3).mono ?_; rintro e w' ⟨rfl, rfl⟩)
    go_ret
    exact ⟨rfl, Below.refl _ _⟩
end Go.Proofs.Qxb6003691a
