import Derived.Test.Qxb6003691aG2
namespace Go.Proofs.Qxb6003691a
open Go.RowKit
set_option linter.unusedVariables false

set_option maxHeartbeats 2000000 in
theorem drain_core (a0 a1 : Option Addr) (n cap0 cap1 : Nat) (A R : Nat → Int) (w : World) (hA : Src w a0 n (fun i => .int .u64 (A i))) (hR : Src w a1 n (fun i => .int .u32 (R i))) (hn : n ≤ 4096) (h0 : 0 < n) :
    Calls Try.prog 3 #[.slice a0 n cap0, .slice a1 n cap1] w fun e w' => e = .returned (.bool true) ∧ Below w.heap.size w w' := by
  have hd : decide (n + n ≤ 1048576) = true := decide_eq_true (by omega)
  go_enter Try.func3, Try.ntmps3
  go_wp2_with (go_at_call 7; refine (bytes7 _ _ _ _ _ _ _ (by unfold maxLen; omega) (by unfold maxLen; omega)).mono ?_; rintro e w' ⟨rfl, rfl⟩)
  clear hd
  go_wp2_with fail
  refine (copy8 _ _ _ _ _ hA (by omega)).mono ?_
  rintro e w1 ⟨a', rfl, ho, -, hB1⟩
  obtain ⟨ba, rfl, hba, hRa⟩ := ho.pos h0
  have hR1 := hR.below hB1
  clear ho hA hR
  go_wp2_with fail
  refine (copy9 _ _ _ _ _ hR1 (by omega)).mono ?_
  rintro e w2 ⟨a', rfl, ho, -, hB2⟩
  obtain ⟨br, rfl, hbr, hRr⟩ := ho.pos h0
  have hRa2 := hRa.below hB2
  have hB12 := hB1.trans (hB2.mono hB1.size)
  clear ho hR1 hRa
  go_wp2_with fail
  refine (queueFrom_any _ _ _ _ _ _ _ _ hRa2.src hRr.src (by omega)).mono ?_
  rintro e w3 ⟨qb, rfl, hb, hQ, hqb, hhb, hB3⟩
  have hRa3 := hRa2.below hB3
  have hRr3 := hRr.below hB3
  have hB13 := hB12.trans (hB3.mono hB12.size)
  have n5 : ba < qb := by have := hRa2.lt; omega
  have n6 : ba < hb := by have := hRa2.lt; omega
  have n7 : br < qb := by have := hRr.lt; omega
  have n8 : br < hb := by have := hRr.lt; omega
  have n10 : w'.heap.size ≤ qb := by have := hB12.size; omega
  have n11 : w'.heap.size ≤ hb := by have := hB12.size; omega
  clear hB1 hB2 hB12 hRa2 hRr hB3 hqb hhb
  go_wp2_with fail
  refine (heapify_any hQ hn).mono ?_
  rintro e w4 ⟨rfl, q, hG, hQ4, hK4⟩
  have hRa4 := hRa3.keep hK4 (by omega)
  have hRr4 := hRr3.keep hK4 (by omega)
  have hB14 := hB13.trans (hK4.to_below hB13.size (fun j hj e => by omega))
  clear hQ hRa3 hRr3 hB13 hK4
  go_wp2_with fail
  refine (ordered_any hQ4 hn hG.1).mono ?_
  rintro e w5 ⟨rfl, rfl⟩
  go_wp2_with fail
  refine (copy8 _ _ _ _ _ hRa4.src (by omega)).mono ?_
  rintro e w6 ⟨a', rfl, ho, -, hB6⟩
  obtain ⟨ma, rfl, hma, hM1⟩ := ho.pos h0
  have hRr5 := hRr4.below hB6
  have hQ5 := hQ4.below hB6
  have hB15 := hB14.trans (hB6.mono hB14.size)
  have e1 : qb < ma := by have := hQ4.lt; omega
  have e2 : hb < ma := by have := hQ4.heap.lt; omega
  clear ho hRa4 hRr4 hQ4 hB14 hB6
  go_wp2_with fail
  refine (copy9 _ _ _ _ _ hRr5.src (by omega)).mono ?_
  rintro e w7 ⟨a', rfl, ho, -, hB7⟩
  obtain ⟨mr, rfl, hmr, hM2⟩ := ho.pos h0
  have hM17 := hM1.below hB7
  have hQ6 := hQ5.below hB7
  have hB16 := hB15.trans (hB7.mono hB15.size)
  have e3 : ma < mr := by have := hM1.lt; omega
  clear ho hRr5 hQ5 hB15 hB7 hM1
  have T : Two w7 ma mr n (fun i => (A i, R i)) := ⟨hM17, hM2⟩
  clear hM17 hM2
  have n12 : w'.heap.size ≤ ma := by omega
  go_wp2_with fail
  refine (sort_any ma mr n _ _ _ _ T (by omega) hn).mono ?_
  rintro e w8 ⟨rfl, g, hS, hT8, hK8⟩
  have hQ8 := hQ6.keep hK8 (by omega) (by omega)
  have hB18 := hB16.trans (hK8.to_below hB16.size (fun j hj e => by omega))
  clear T hQ6 hB16 hK8
  go_wp2_with fail
  refine (drains_any hQ8 hT8 hn (Left.start hG.1 hG.2 hS.2) hS.1 (by omega) (by omega) (by omega) (by omega)).mono ?_
  rintro e w9 ⟨rfl, hK9⟩
  have hB19 := hB18.trans (hK9.to_below hB18.size (fun j hj e => by omega))
  go_wp2
  go_ret
  exact ⟨rfl, hB19⟩

set_option maxHeartbeats 2000000 in
theorem drain_zero (a0 a1 : Option Addr) (n cap0 cap1 : Nat) (w : World) (hA : Src w a0 n (fun i => .int .u64 0)) (hR : Src w a1 n (fun i => .int .u32 0)) (hn : n < 1) :
    Calls Try.prog 3 #[.slice a0 n cap0, .slice a1 n cap1] w fun e w' => e = .returned (.bool true) ∧ Below w.heap.size w w' := by
  have hd : decide (n + n ≤ 1048576) = true := decide_eq_true (by omega)
  go_enter Try.func3, Try.ntmps3
  go_wp2_with (go_at_call 7; refine (bytes7 _ _ _ _ _ _ _ (by unfold maxLen; omega) (by unfold maxLen; omega)).mono ?_; rintro e w' ⟨rfl, rfl⟩)
  clear hd
  go_wp2_with fail
  refine (copy8 _ _ _ (fun _ => 0) _ hA (by omega)).mono ?_
  rintro e w1 ⟨x0, rfl, ho, -, hB1⟩
  have hA1 := ho.src
  have hR1 := hR.below hB1
  clear ho hA hR
  go_wp2_with fail
  refine (copy9 _ _ _ (fun _ => 0) _ hR1 (by omega)).mono ?_
  rintro e w2 ⟨x1, rfl, ho, -, hB2⟩
  have hA2 := hA1.below hB2
  have hR2 := ho.src
  have hB12 := hB1.trans (hB2.mono hB1.size)
  clear ho hR1 hA1
  go_wp2_with fail
  refine (queueFrom_any _ _ _ _ _ (fun _ => 0) (fun _ => 0) _ hA2 hR2 (by omega)).mono ?_
  rintro e w3 ⟨qb, rfl, hb, hQ, hqb, hhb, hB3⟩
  have hA3 := hA2.below hB3
  have hR3 := hR2.below hB3
  have hB13 := hB12.trans (hB3.mono hB12.size)
  have n11 : w'.heap.size ≤ hb := by have := hB12.size; omega
  clear hB1 hB2 hB12 hA2 hR2 hB3 hqb hhb
  go_wp2_with fail
  refine (heapify_any hQ (by omega)).mono ?_
  rintro e w4 ⟨rfl, q, hG, hQ4, hK4⟩
  have hB14 := hB13.trans (hK4.to_below hB13.size (fun j hj e => by omega))
  have hA4 : Src w4 x0 n (fun i => .int .u64 0) := ⟨hA3.1, fun h => absurd h (by omega)⟩
  have hR4 : Src w4 x1 n (fun i => .int .u32 0) := ⟨hR3.1, fun h => absurd h (by omega)⟩
  clear hQ hA3 hR3 hB13 hK4
  go_wp2_with fail
  refine (ordered_any hQ4 (by omega) hG.1).mono ?_
  rintro e w5 ⟨rfl, rfl⟩
  go_wp2_with fail
  refine (copy8 _ _ _ (fun _ => 0) _ hA4 (by omega)).mono ?_
  rintro e w6 ⟨y0, rfl, ho, -, hB6⟩
  have hR5 := hR4.below hB6
  have hQ5 := hQ4.below hB6
  have hB15 := hB14.trans (hB6.mono hB14.size)
  clear ho hA4 hR4 hQ4 hB14 hB6
  go_wp2_with fail
  refine (copy9 _ _ _ (fun _ => 0) _ hR5 (by omega)).mono ?_
  rintro e w7 ⟨y1, rfl, ho, -, hB7⟩
  have hQ6 := hQ5.below hB7
  have hB16 := hB15.trans (hB7.mono hB15.size)
  clear ho hR5 hQ5 hB15 hB7
  go_wp2_with fail
  refine (sort_zero _ _ _ _ _ _ hn).mono ?_
  rintro e w8 ⟨rfl, rfl⟩
  go_wp2_with fail
  refine (drains_zero _ _ hQ6 hn).mono ?_
  rintro e w9 ⟨rfl, rfl⟩
  go_wp2
  go_ret
  exact ⟨rfl, hB16⟩

theorem drain_early (a0 a1 : Option Addr) (l0 l1 cap0 cap1 : Nat) (w : World) (h0 : l0 ≤ maxLen) (h1 : l1 ≤ maxLen) (h : ¬ (l0 ≤ 4096 ∧ l1 ≤ 4096 ∧ l0 = l1)) :
    Calls Try.prog 3 #[.slice a0 l0 cap0, .slice a1 l1 cap1] w fun e w' => e = .returned (.bool true) ∧ Below w.heap.size w w' := by
  by_cases hs : l0 + l1 ≤ 1048576
  · have hd : decide (l0 + l1 ≤ 1048576) = true := decide_eq_true hs
    by_cases x8 : 8 * l0 + 8 * l1 ≤ 1048576
    · by_cases x0 : l0 ≤ 4096
      · by_cases x1 : l1 ≤ 4096
        · have hne : ((l0 : Int) != (l1 : Int)) = true := by simp; omega
          go_enter Try.func3, Try.ntmps3
          go_wp2_with (go_at_call 7; refine (bytes7 _ _ _ _ _ _ _ h0 h1).mono ?_; rintro e w' ⟨rfl, rfl⟩)
          go_ret
          exact ⟨rfl, Below.refl _ _⟩
        · go_enter Try.func3, Try.ntmps3
          go_wp2_with (go_at_call 7; refine (bytes7 _ _ _ _ _ _ _ h0 h1).mono ?_; rintro e w' ⟨rfl, rfl⟩)
          go_ret
          exact ⟨rfl, Below.refl _ _⟩
      · go_enter Try.func3, Try.ntmps3
        go_wp2_with (go_at_call 7; refine (bytes7 _ _ _ _ _ _ _ h0 h1).mono ?_; rintro e w' ⟨rfl, rfl⟩)
        go_ret
        exact ⟨rfl, Below.refl _ _⟩
    · go_enter Try.func3, Try.ntmps3
      go_wp2_with (go_at_call 7; refine (bytes7 _ _ _ _ _ _ _ h0 h1).mono ?_; rintro e w' ⟨rfl, rfl⟩)
      go_ret
      exact ⟨rfl, Below.refl _ _⟩
  · have hd : decide (l0 + l1 ≤ 1048576) = false := decide_eq_false hs
    go_enter Try.func3, Try.ntmps3
    go_wp2_with (go_at_call 7; refine (bytes7 _ _ _ _ _ _ _ h0 h1).mono ?_; rintro e w' ⟨rfl, rfl⟩)
    go_ret
    exact ⟨rfl, Below.refl _ _⟩

theorem drain_all (a0 a1 : Option Addr) (l0 l1 cap0 cap1 : Nat) (z0 z1 : List Int) (w : World) (h0 : Src w a0 l0 (fun i => .int .u64 (z0.getD i 0)) ∧ l0 ≤ maxLen) (h1 : Src w a1 l1 (fun i => .int .u32 (z1.getD i 0)) ∧ l1 ≤ maxLen) :
    Calls Try.prog 3 #[.slice a0 l0 cap0, .slice a1 l1 cap1] w fun e w' => e = .returned (.bool true) ∧ Below w.heap.size w w' := by
  by_cases h : l0 ≤ 4096 ∧ l1 ≤ 4096 ∧ l0 = l1
  · obtain ⟨x0, x1, rfl⟩ := h
    by_cases hn : l0 < 1
    · exact drain_zero a0 a1 l0 cap0 cap1 w (h0.1.congr (fun i hi => absurd hi (by omega))) (h1.1.congr (fun i hi => absurd hi (by omega))) hn
    · exact drain_core a0 a1 l0 cap0 cap1 _ _ w h0.1 h1.1 x0 (by omega)
  · exact drain_early a0 a1 l0 l1 cap0 cap1 w h0.2 h1.2 h
end Go.Proofs.Qxb6003691a
