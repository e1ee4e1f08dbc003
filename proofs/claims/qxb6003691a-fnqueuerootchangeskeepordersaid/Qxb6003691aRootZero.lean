import Derived.Test.Qxb6003691aG4
import Derived.Deep.Cut
namespace Go.Proofs.Qxb6003691a
open Go.RowKit
set_option linter.unusedVariables false

set_option maxHeartbeats 2000000 in
theorem same_zero {w : World} {qb hb m c1 c2 : Nat} {q : Nat → Int × Int} (a1 a2 : Option Addr) (hQ : Que w qb hb m q) (hm : m < 1) :
    Calls Try.prog 17 #[.pointer (some ⟨qb, 0, none⟩), .slice a1 m c1, .slice a2 m c2] w fun e w' => e = .returned (.bool true) ∧ Below w.heap.size w w' := by
  have hmk1 := make_u64 m (by omega)
  have hmk2 := make_u32 m (by omega)
  go_enter Try.func17, Try.ntmps17
  go_wp2_with (go_at_call 46; refine (queueLen_any hQ).mono ?_; rintro e w' ⟨rfl, rfl⟩)
  obtain ⟨W, hW⟩ : ∃ W, W = (w'.alloc (.cells (madeCells #[.int .u64 0] m) 36)).alloc (.cells (madeCells #[.int .u32 0] m) 38) := ⟨_, rfl⟩
  rw [← hW]
  obtain ⟨ha, hha⟩ : ∃ ha, ha = w'.heap.size := ⟨_, rfl⟩
  have BW : Below w'.heap.size w' W := by rw [hW]; exact ((Below.refl _ _).alloc (Nat.le_refl _) _).alloc (by simp) _
  have T0 : Two W ha (ha + 1) m (fun _ => (0, 0)) := by rw [hW, hha]; exact Two.made w' m
  have SZ : W.heap.size = ha + 2 := by rw [hW, hha]; simp
  rw [← hha] at BW ⊢
  have HB : Hid (ha = w'.heap.size) := hha
  clear hW hha
  go_loopw [10] (fun v wr => v = .int .i64 0 ∧ wr = W) (fun v _ => 0)
  case atStart => exact ⟨rfl, rfl⟩
  case round =>
    obtain ⟨rfl, rfl⟩ := hrel
    go_wp2
    obtain ⟨V, hV⟩ : ∃ V, V = (wr.alloc (.cells (madeCells #[.int .u64 0] m) 36)).alloc (.cells (madeCells #[.int .u32 0] m) 38) := ⟨_, rfl⟩
    have BV : Below wr.heap.size wr V := by rw [hV]; exact ((Below.refl _ _).alloc (Nat.le_refl _) _).alloc (by simp) _
    have T1 : Two V wr.heap.size (wr.heap.size + 1) m (fun _ => (0, 0)) := by rw [hV]; exact Two.made wr m
    rw [← hV]
    have B2 : Below ha w' V := BW.trans (BV.mono (by omega))
    clear hV BV BW hmk1 hmk2
    go_loopw [13] (fun v wr => v = .int .i64 0 ∧ wr = V) (fun v _ => 0)
    case atStart => exact ⟨rfl, rfl⟩
    case round =>
      obtain ⟨rfl, rfl⟩ := hrel
      go_wp2_with fail
      refine (sort_zero _ _ _ _ _ _ hm).mono ?_
      rintro e w2 ⟨rfl, rfl⟩
      go_wp2_with fail
      refine (sort_zero _ _ _ _ _ _ hm).mono ?_
      rintro e w3 ⟨rfl, rfl⟩
      go_wp2
      go_loopw [14] (fun v wz => v = .int .i64 0 ∧ wz = w3) (fun v _ => 0)
      case atStart => exact ⟨rfl, rfl⟩
      case round =>
        obtain ⟨rfl, rfl⟩ := hrel
        go_wp2
        go_ret
        rw [← HB.out]
        exact ⟨rfl, B2⟩

theorem Src.zero {w : World} {a : Option Addr} {n : Nat} {F : Nat → Value} (hn : n < 1) : Src w a n F := ⟨fun _ => by omega, fun h => absurd h (by omega)⟩

set_option maxRecDepth 100000 in
set_option maxHeartbeats 20000000 in
theorem root_zero (a0 a1 a2 a3 : Option Addr) (n K cap0 cap1 cap2 cap3 : Nat) (V : Nat → Int) (D : Nat → Bool) (w : World)
    (hV : Src w a2 K (fun i => .int .u64 (V i))) (hD : Src w a3 K (fun i => .bool (D i))) (hn : n < 1) (hK : K ≤ 1024) :
    Calls Try.prog 4 #[.slice a0 n cap0, .slice a1 n cap1, .slice a2 K cap2, .slice a3 K cap3] w fun e w' => e = .returned (.bool true) ∧ Below w.heap.size w w' := by
  have hd : decide (n + n + K + K ≤ 1048576) = true := decide_eq_true (by omega)
  go_enter Try.func4, Try.ntmps4
  go_wp2_with (go_at_call 15; refine (bytes15 _ _ _ _ _ _ _ _ _ _ _ _ _ (by unfold maxLen; omega) (by unfold maxLen; omega) (by unfold maxLen; omega) (by unfold maxLen; omega)).mono ?_; rintro e w' ⟨rfl, rfl⟩)
  clear hd
  go_wp2_with fail
  refine (copy8 _ _ _ (fun _ => 0) _ (Src.zero hn) (by omega)).mono ?_
  rintro e w1 ⟨x0, rfl, -, -, hB1⟩
  have hV1 := hV.below hB1
  have hD1 := hD.below hB1
  clear hV hD
  go_wp2_with fail
  refine (copy9 _ _ _ (fun _ => 0) _ (Src.zero hn) (by omega)).mono ?_
  rintro e w2 ⟨x1, rfl, -, -, hB2⟩
  have hV2 := hV1.below hB2
  have hD2 := hD1.below hB2
  have hB12 := hB1.trans (hB2.mono hB1.size)
  clear hV1 hD1 hB1 hB2
  go_wp2_with fail
  refine (copy8 _ _ _ _ _ hV2 (by omega)).mono ?_
  rintro e w3 ⟨b2, rfl, -, -, hB3⟩
  have hD3 := hD2.below hB3
  have hB13 := hB12.trans (hB3.mono hB12.size)
  clear hV2 hD2 hB12 hB3
  go_wp2_with fail
  refine (copy16 _ _ _ _ _ hD3 (by omega)).mono ?_
  rintro e w4 ⟨b3, rfl, -, -, hB4⟩
  have hB14 := hB13.trans (hB4.mono hB13.size)
  clear hD3 hB13 hB4
  go_wp2_with fail
  refine (queueFrom_any _ _ _ _ _ (fun _ => 0) (fun _ => 0) _ (Src.zero hn) (Src.zero hn) (by omega)).mono ?_
  rintro e w5 ⟨qb, rfl, hb, hQ, hqb, hhb, hB5⟩
  have hB15 := hB14.trans (hB5.mono hB14.size)
  have n11 : w'.heap.size ≤ hb := by have := hB14.size; omega
  clear hB14 hB5 hqb hhb
  go_wp2_with fail
  refine (heapify_any hQ (by omega)).mono ?_
  rintro e w6 ⟨rfl, q, hG, hQ6, hK6⟩
  have hB16 := hB15.trans (hK6.to_below hB15.size (fun j hj e => by omega))
  clear hQ hB15 hK6
  go_wp2_with fail
  refine (copy8 _ _ _ (fun _ => 0) _ (Src.zero hn) (by omega)).mono ?_
  rintro e w7 ⟨y0, rfl, hoa, -, hB7⟩
  have hQ7 := hQ6.below hB7
  have hB17 := hB16.trans (hB7.mono hB16.size)
  clear hQ6 hB16 hB7
  go_wp2_with fail
  refine (copy9 _ _ _ (fun _ => 0) _ (Src.zero hn) (by omega)).mono ?_
  rintro e w8 ⟨y1, rfl, hor, -, hB8⟩
  have hQ8 := hQ7.below hB8
  have hB18 := hB17.trans (hB8.mono hB17.size)
  have E0 : y0 = none ∨ ∃ b, y0 = some ⟨b, 0, none⟩ := by
    rcases hoa with ⟨h, _⟩ | ⟨b, _, h, _⟩
    · exact .inl h
    · exact .inr ⟨b, h⟩
  have E1 : y1 = none ∨ ∃ b, y1 = some ⟨b, 0, none⟩ := by
    rcases hor with ⟨h, _⟩ | ⟨b, _, h, _⟩
    · exact .inl h
    · exact .inr ⟨b, h⟩
  clear hQ7 hB17 hB8 hoa hor
  go_wp2_with fail
  go_cut [106] from 22 (fun v wc => v = .bool false ∧ Que wc qb hb n q ∧ Below w'.heap.size w' wc)
  case first =>
    rcases E0 with rfl | ⟨b0, rfl⟩ <;> rcases E1 with rfl | ⟨b1, rfl⟩
    all_goals (go_region_with (first
      | (go_at_call 17; refine (same_zero _ _ hQ8.drew hn).mono ?_; rintro e w9 ⟨rfl, hB9⟩)
      | (go_at_call 12; refine (ordered_any (hQ8.drew.below hB9) (by omega) hG.1).mono ?_; rintro e w10 ⟨rfl, rfl⟩)))
    all_goals go_wp2
    all_goals go_meet
    all_goals (case rel => exact ⟨rfl, hQ8.drew.below hB9, hB18.drew.trans (hB9.mono hB18.size)⟩)
  case rest =>
    clear hQ8 hB18
    obtain ⟨rfl, hQ, hB⟩ := hcut
    go_wp2
    go_loopw [12, 13] (fun x v wr => x = .int .i64 n ∧ v = .int .i64 0 ∧ wr = wc) (fun _ v _ => 0)
    case atStart => exact ⟨rfl, rfl, rfl⟩
    case round =>
      obtain ⟨rfl, rfl, rfl⟩ := hrel
      by_cases hlt : 0 < K
      · rcases E0 with rfl | ⟨b0, rfl⟩ <;> rcases E1 with rfl | ⟨b1, rfl⟩
        all_goals go_wp2_with fail
        all_goals (
          refine (copy8 _ _ _ (fun _ => 0) _ (Src.zero hn) (by omega)).mono ?_
          rintro e z2 ⟨y0, rfl, -, -, hB2⟩)
        all_goals (
          have hQ2 := hQ.below hB2
          have hBB := hB.trans (hB2.mono hB.size)
          clear hQ hB hB2)
        all_goals go_wp2_with fail
        all_goals (
          refine (copy9 _ _ _ (fun _ => 0) _ (Src.zero hn) (by omega)).mono ?_
          rintro e z3 ⟨y1, rfl, -, -, hB3⟩)
        all_goals (
          have hQ3 := hQ2.below hB3
          have hBB3 := hBB.trans (hB3.mono hBB.size)
          clear hQ2 hBB hB3)
        all_goals go_wp2_with fail
        all_goals (
          refine (sort_zero _ _ _ _ _ _ hn).mono ?_
          rintro e z4 ⟨rfl, rfl⟩)
        all_goals go_wp2_with fail
        all_goals (
          refine (drains_zero _ _ hQ3 hn).mono ?_
          rintro e z5 ⟨rfl, rfl⟩)
        all_goals go_wp2
        all_goals go_ret
        all_goals exact ⟨rfl, hBB3⟩
      · rcases E0 with rfl | ⟨b0, rfl⟩ <;> rcases E1 with rfl | ⟨b1, rfl⟩
        all_goals go_wp2_with fail
        all_goals (
          refine (copy8 _ _ _ (fun _ => 0) _ (Src.zero hn) (by omega)).mono ?_
          rintro e z2 ⟨y0, rfl, -, -, hB2⟩)
        all_goals (
          have hQ2 := hQ.below hB2
          have hBB := hB.trans (hB2.mono hB.size)
          clear hQ hB hB2)
        all_goals go_wp2_with fail
        all_goals (
          refine (copy9 _ _ _ (fun _ => 0) _ (Src.zero hn) (by omega)).mono ?_
          rintro e z3 ⟨y1, rfl, -, -, hB3⟩)
        all_goals (
          have hQ3 := hQ2.below hB3
          have hBB3 := hBB.trans (hB3.mono hBB.size)
          clear hQ2 hBB hB3)
        all_goals go_wp2_with fail
        all_goals (
          refine (sort_zero _ _ _ _ _ _ hn).mono ?_
          rintro e z4 ⟨rfl, rfl⟩)
        all_goals go_wp2_with fail
        all_goals (
          refine (drains_zero _ _ hQ3 hn).mono ?_
          rintro e z5 ⟨rfl, rfl⟩)
        all_goals go_wp2
        all_goals go_ret
        all_goals exact ⟨rfl, hBB3⟩
end Go.Proofs.Qxb6003691a
