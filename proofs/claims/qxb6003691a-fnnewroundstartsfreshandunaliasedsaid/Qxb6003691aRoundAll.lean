import Derived.Test.Qxb6003691aRoundLaw
import Derived.Test.Qxb6003691aRoundEarly
namespace Go.Proofs.Qxb6003691a
open Go.RowKit
set_option linter.unusedVariables false

theorem round_all (n p0 p1 p2 p3 : Int) (a5 a6 : Option Addr) (l5 l6 c5 c6 : Nat) (z5 z6 : List Int) (w : World)
    (h5 : Src w a5 l5 (fun i => .int .i64 (z5.getD i 0)) ∧ l5 ≤ maxLen) (h6 : Src w a6 l6 (fun i => .int .i64 (z6.getD i 0)) ∧ l6 ≤ maxLen) :
    Calls Try.prog 5 #[.int .i64 n, .int .u64 p0, .int .u64 p1, .int .u64 p2, .int .u64 p3, .slice a5 l5 c5, .slice a6 l6 c6] w fun e w' => e = .returned (.bool true) ∧ Below w.heap.size w w' := by
  by_cases h : l5 ≤ 4096 ∧ l6 ≤ 4096 ∧ 0 ≤ n ∧ n ≤ 64 ∧ l5 = l6
  · obtain ⟨x5, x6, n0, n64, rfl⟩ := h
    obtain ⟨k, rfl⟩ := Int.eq_ofNat_of_zero_le n0
    have hk : k ≤ 64 := by omega
    cases g5 : allB (fun i => z5.getD i 0) k l5 with
    | false => exact round_off k l5 c5 c6 hk x5 a5 a6 _ _ p0 p1 p2 p3 w h5.1 h6.1 (.inl g5)
    | true =>
      cases g6 : allB (fun i => z6.getD i 0) k l5 with
      | false => exact round_off k l5 c5 c6 hk x5 a5 a6 _ _ p0 p1 p2 p3 w h5.1 h6.1 (.inr ⟨g5, g6⟩)
      | true => exact round_core k l5 c5 c6 hk x5 a5 a6 _ _ p0 p1 p2 p3 w h5.1 h6.1 g5 g6
  · exact round_early n p0 p1 p2 p3 l5 l6 c5 c6 a5 a6 w h5.2 h6.2 h
end Go.Proofs.Qxb6003691a
