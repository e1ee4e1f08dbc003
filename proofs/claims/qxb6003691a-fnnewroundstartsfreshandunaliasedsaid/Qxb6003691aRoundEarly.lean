import Derived.Test.Qxb6003691aRound4
namespace Go.Proofs.Qxb6003691a
open Go.RowKit
set_option linter.unusedVariables false

set_option maxRecDepth 100000 in
set_option maxHeartbeats 20000000 in
theorem round_early (n p0 p1 p2 p3 : Int) (l5 l6 c5 c6 : Nat) (a5 a6 : Option Addr) (w : World) (h5 : l5 ≤ maxLen) (h6 : l6 ≤ maxLen)
    (h : ¬ (l5 ≤ 4096 ∧ l6 ≤ 4096 ∧ 0 ≤ n ∧ n ≤ 64 ∧ l5 = l6)) :
    Calls Try.prog 5 #[.int .i64 n, .int .u64 p0, .int .u64 p1, .int .u64 p2, .int .u64 p3, .slice a5 l5 c5, .slice a6 l6 c6] w fun e w' => e = .returned (.bool true) ∧ Below w.heap.size w w' := by
  have q5 : l5 ≤ 9223372036854775807 := by unfold maxLen at h5; omega
  have q6 : l6 ≤ 9223372036854775807 := by unfold maxLen at h6; omega
  by_cases hs : l5 + l6 ≤ 1048576
  · have hd : decide (l5 + l6 ≤ 1048576) = true := decide_eq_true hs
    by_cases x8 : 8 * l5 + 8 * l6 ≤ 1048576
    · by_cases x0 : l5 ≤ 4096
      · by_cases x1 : l6 ≤ 4096
        · by_cases x2 : 0 ≤ n
          · by_cases x3 : n ≤ 64
            · have hne : ((l5 : Int) != (l6 : Int)) = true := by simp; omega
              clear h
              go_enter Try.func5, Try.ntmps5
              go_wp2_with (go_at_call 24; refine (bytes24 _ _ _ _ _ _ _ _ _ _ _ _ h5 h6).mono ?_; rintro e w' ⟨rfl, rfl⟩)
              go_ret
              exact ⟨rfl, Below.refl _ _⟩
            · clear h
              go_enter Try.func5, Try.ntmps5
              go_wp2_with (go_at_call 24; refine (bytes24 _ _ _ _ _ _ _ _ _ _ _ _ h5 h6).mono ?_; rintro e w' ⟨rfl, rfl⟩)
              go_ret
              exact ⟨rfl, Below.refl _ _⟩
          · clear h
            go_enter Try.func5, Try.ntmps5
            go_wp2_with (go_at_call 24; refine (bytes24 _ _ _ _ _ _ _ _ _ _ _ _ h5 h6).mono ?_; rintro e w' ⟨rfl, rfl⟩)
            go_ret
            exact ⟨rfl, Below.refl _ _⟩
        · clear h
          go_enter Try.func5, Try.ntmps5
          go_wp2_with (go_at_call 24; refine (bytes24 _ _ _ _ _ _ _ _ _ _ _ _ h5 h6).mono ?_; rintro e w' ⟨rfl, rfl⟩)
          go_ret
          exact ⟨rfl, Below.refl _ _⟩
      · clear h
        go_enter Try.func5, Try.ntmps5
        go_wp2_with (go_at_call 24; refine (bytes24 _ _ _ _ _ _ _ _ _ _ _ _ h5 h6).mono ?_; rintro e w' ⟨rfl, rfl⟩)
        go_ret
        exact ⟨rfl, Below.refl _ _⟩
    · clear h
      go_enter Try.func5, Try.ntmps5
      go_wp2_with (go_at_call 24; refine (bytes24 _ _ _ _ _ _ _ _ _ _ _ _ h5 h6).mono ?_; rintro e w' ⟨rfl, rfl⟩)
      go_ret
      exact ⟨rfl, Below.refl _ _⟩
  · have hd : decide (l5 + l6 ≤ 1048576) = false := decide_eq_false hs
    clear h
    go_enter Try.func5, Try.ntmps5
    go_wp2_with (go_at_call 24; refine (bytes24 _ _ _ _ _ _ _ _ _ _ _ _ h5 h6).mono ?_; rintro e w' ⟨rfl, rfl⟩)
    go_ret
    exact ⟨rfl, Below.refl _ _⟩

set_option maxRecDepth 100000 in
set_option maxHeartbeats 20000000 in
theorem round_off (n m c5 c6 : Nat) (hn : n ≤ 64) (hm : m ≤ 4096) (a5 a6 : Option Addr) (S R : Nat → Int) (p0 p1 p2 p3 : Int) (w : World)
    (h5 : Src w a5 m (fun i => .int .i64 (S i))) (h6 : Src w a6 m (fun i => .int .i64 (R i))) (g : allB S n m = false ∨ allB S n m = true ∧ allB R n m = false) :
    Calls Try.prog 5 #[.int .i64 n, .int .u64 p0, .int .u64 p1, .int .u64 p2, .int .u64 p3, .slice a5 m c5, .slice a6 m c6] w fun e w' => e = .returned (.bool true) ∧ Below w.heap.size w w' := by
  have hd : decide (m + m ≤ 1048576) = true := decide_eq_true (by omega)
  go_enter Try.func5, Try.ntmps5
  go_wp2_with (go_at_call 24; refine (bytes24 _ _ _ _ _ _ _ _ _ _ _ _ (by unfold maxLen; omega) (by unfold maxLen; omega)).mono ?_; rintro e w' ⟨rfl, rfl⟩)
  clear hd
  go_wp2_with fail
  refine (allBelow_any _ _ _ S _ _ h5 (by omega)).mono ?_
  rintro e w' ⟨rfl, rfl⟩
  rcases g with g5 | ⟨g5, g6⟩
  · rw [g5]
    clear h5 h6
    go_wp2_with fail
    go_ret
    exact ⟨rfl, Below.refl _ _⟩
  · rw [g5]
    go_wp2_with fail
    refine (allBelow_any _ _ _ R _ _ h6 (by omega)).mono ?_
    rintro e w' ⟨rfl, rfl⟩
    rw [g6]
    clear h5 h6
    go_wp2_with fail
    go_ret
    exact ⟨rfl, Below.refl _ _⟩
end Go.Proofs.Qxb6003691a
