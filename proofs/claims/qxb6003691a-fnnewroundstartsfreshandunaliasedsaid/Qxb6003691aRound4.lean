import Derived.Test.Qxb6003691aRound3
import Derived.Deep.MidRow
namespace Go.Proofs.Qxb6003691a
open Go.RowKit
set_option linter.unusedVariables false

set_option maxHeartbeats 1000000 in
theorem zzNewRound_any (n m c : Nat) (hn : n ≤ 64) (hm : m ≤ 4096) (a : Option Addr) (S R : Nat → Int) (p0 p1 p2 p3 : Int) (w : World) (hL : 0 < m → ∃ lb, a = some ⟨lb, 0, none⟩ ∧ Links w lb m S R)
    (hS : ∀ i, i < m → 0 ≤ S i ∧ S i < n) (hR : ∀ i, i < m → 0 ≤ R i ∧ R i < n) :
    Calls Try.prog 27 #[.int .i64 n, .agg #[.int .u64 p0, .int .u64 p1, .int .u64 p2, .int .u64 p3, .slice a m c, .slice none 0 0, .int .u8 0, .int .u8 0, .int .u8 0, .int .u8 0, .int .u8 0, .int .u8 0, .int .u8 0, .int .u8 0, .int .u8 0, .int .u8 0, .int .u8 0, .int .u8 0, .int .u8 0, .int .u8 0, .int .u8 0, .int .u8 0, .int .u8 0, .int .u8 0, .int .u8 0, .int .u8 0, .int .u8 0, .int .u8 0, .int .u8 0, .int .u8 0, .int .u8 0, .int .u8 0, .int .u8 0, .int .u8 0, .int .u8 0, .int .u8 0, .int .u8 0, .int .u8 0, .bool false]] w fun e w' => ∃ sb, e = .returned (.pointer (some ⟨sb, 0, none⟩)) ∧
      ∃ b, Rnd w' sb b n p0 p1 p2 p3 (fun i j => named S R i j m) (fun _ => 0) (fun _ => 0) (fun _ => p0) (fun _ => p0) ∧ w.heap.size ≤ b.gc ∧ w.heap.size ≤ b.ac ∧ Below w.heap.size w w' := by
  have B1 : Below w.heap.size w (w.alloc (.cells #[.int .u64 p0, .int .u64 p1, .int .u64 p2, .int .u64 p3, .slice a m c, .slice none 0 0, .int .u8 0, .int .u8 0, .int .u8 0, .int .u8 0, .int .u8 0, .int .u8 0, .int .u8 0, .int .u8 0, .int .u8 0, .int .u8 0, .int .u8 0, .int .u8 0, .int .u8 0, .int .u8 0, .int .u8 0, .int .u8 0, .int .u8 0, .int .u8 0, .int .u8 0, .int .u8 0, .int .u8 0, .int .u8 0, .int .u8 0, .int .u8 0, .int .u8 0, .int .u8 0, .int .u8 0, .int .u8 0, .int .u8 0, .int .u8 0, .int .u8 0, .int .u8 0, .bool false] 55)) := (Below.refl _ _).alloc (Nat.le_refl _) _
  have HL : Hid (0 < m → ∃ lb, a = some ⟨lb, 0, none⟩ ∧ Links (w.alloc (.cells #[.int .u64 p0, .int .u64 p1, .int .u64 p2, .int .u64 p3, .slice a m c, .slice none 0 0, .int .u8 0, .int .u8 0, .int .u8 0, .int .u8 0, .int .u8 0, .int .u8 0, .int .u8 0, .int .u8 0, .int .u8 0, .int .u8 0, .int .u8 0, .int .u8 0, .int .u8 0, .int .u8 0, .int .u8 0, .int .u8 0, .int .u8 0, .int .u8 0, .int .u8 0, .int .u8 0, .int .u8 0, .int .u8 0, .int .u8 0, .int .u8 0, .int .u8 0, .int .u8 0, .int .u8 0, .int .u8 0, .int .u8 0, .int .u8 0, .int .u8 0, .int .u8 0, .bool false] 55)) lb m S R) := by
    intro h
    obtain ⟨lb, e1, e2⟩ := hL h
    exact ⟨lb, e1, e2.below B1 e2.lt⟩
  clear hL
  have hrg : (w.alloc (.cells #[.int .u64 p0, .int .u64 p1, .int .u64 p2, .int .u64 p3, .slice a m c, .slice none 0 0, .int .u8 0, .int .u8 0, .int .u8 0, .int .u8 0, .int .u8 0, .int .u8 0, .int .u8 0, .int .u8 0, .int .u8 0, .int .u8 0, .int .u8 0, .int .u8 0, .int .u8 0, .int .u8 0, .int .u8 0, .int .u8 0, .int .u8 0, .int .u8 0, .int .u8 0, .int .u8 0, .int .u8 0, .int .u8 0, .int .u8 0, .int .u8 0, .int .u8 0, .int .u8 0, .int .u8 0, .int .u8 0, .int .u8 0, .int .u8 0, .int .u8 0, .int .u8 0, .bool false] 55)).rangeAt w.heap.size 0 [.int .u64 p0, .int .u64 p1, .int .u64 p2, .int .u64 p3, .slice a m c, .slice none 0 0, .int .u8 0, .int .u8 0, .int .u8 0, .int .u8 0, .int .u8 0, .int .u8 0, .int .u8 0, .int .u8 0, .int .u8 0, .int .u8 0, .int .u8 0, .int .u8 0, .int .u8 0, .int .u8 0, .int .u8 0, .int .u8 0, .int .u8 0, .int .u8 0, .int .u8 0, .int .u8 0, .int .u8 0, .int .u8 0, .int .u8 0, .int .u8 0, .int .u8 0, .int .u8 0, .int .u8 0, .int .u8 0, .int .u8 0, .int .u8 0, .int .u8 0, .int .u8 0, .bool false] := fun j v hv => by
    simp only [World.cell?, heap_new w _ _ rfl]
    simpa using hv
  go_enter Try.func27, Try.ntmps27
  go_wp2_with (refine wpList_load_mid rfl 55 (.tmp 3) rfl w.heap.size 0 rfl [.int .u64 p0, .int .u64 p1, .int .u64 p2, .int .u64 p3, .slice a m c, .slice none 0 0, .int .u8 0, .int .u8 0, .int .u8 0, .int .u8 0, .int .u8 0, .int .u8 0, .int .u8 0, .int .u8 0, .int .u8 0, .int .u8 0, .int .u8 0, .int .u8 0, .int .u8 0, .int .u8 0, .int .u8 0, .int .u8 0, .int .u8 0, .int .u8 0, .int .u8 0, .int .u8 0, .int .u8 0, .int .u8 0, .int .u8 0, .int .u8 0, .int .u8 0, .int .u8 0, .int .u8 0, .int .u8 0, .int .u8 0, .int .u8 0, .int .u8 0, .int .u8 0, .bool false] _ hrg Try.underlying55 rfl (by kernel_rfl) ?_)
  refine (newRound_any n m c hn hm a S R p0 p1 p2 p3 _ HL.out hS hR).mono ?_
  rintro e w' ⟨sb, rfl, b, hr, g1, g2, hB⟩
  simp only [World.size_alloc] at g1 g2
  have B2 := B1.trans (hB.mono (by simp))
  go_wp2
  go_ret
  exact ⟨sb, rfl, b, hr, by omega, by omega, B2⟩

theorem bytes24 (n x0 x1 x2 x3 : Int) (a0 a1 : Option Addr) (l0 c0 l1 c1 : Nat) (w : World) (h0 : l0 ≤ maxLen) (h1 : l1 ≤ maxLen) :
    Calls Try.prog 24 #[.int .i64 n, .int .u64 x0, .int .u64 x1, .int .u64 x2, .int .u64 x3, .slice a0 l0 c0, .slice a1 l1 c1] w fun e w' => e = .returned (.bool (decide (l0 + l1 ≤ 1048576))) ∧ w' = w := by
  unfold maxLen at h0 h1
  by_cases x0 : l0 ≤ 1048576
  · by_cases x1 : l1 ≤ 1048576
    · by_cases x2 : l0 + l1 ≤ 1048576
      · rw [decide_eq_true x2]
        go_enter Try.func24, Try.ntmps24
        go_wp2
        go_ret
        exact ⟨rfl, rfl⟩
      · rw [decide_eq_false x2]
        go_enter Try.func24, Try.ntmps24
        go_wp2
        go_ret
        exact ⟨rfl, rfl⟩
    · rw [decide_eq_false (by omega)]
      go_enter Try.func24, Try.ntmps24
      go_wp2
      go_ret
      exact ⟨rfl, rfl⟩
  · rw [decide_eq_false (by omega)]
    go_enter Try.func24, Try.ntmps24
    go_wp2
    go_ret
    exact ⟨rfl, rfl⟩

/-- All of the first k numbers lie in 0 .. n-1. -/
def allB (xs : Nat → Int) (n : Int) : Nat → Bool
  | 0 => true
  | k + 1 => allB xs n k && decide (0 ≤ xs k ∧ xs k < n)
theorem allB_out {xs : Nat → Int} {n : Int} {k : Nat} (h : allB xs n k = true) : ∀ i, i < k → 0 ≤ xs i ∧ xs i < n := by
  induction k with
  | zero => intro i hi; omega
  | succ k ih =>
    simp only [allB, Bool.and_eq_true, decide_eq_true_eq] at h
    intro i hi
    by_cases e : i = k
    · rw [e]; exact h.2
    · exact ih h.1 i (by omega)
theorem allB_bad {xs : Nat → Int} {n : Int} {k m : Nat} (hk : k < m) (h : ¬ (0 ≤ xs k ∧ xs k < n)) : allB xs n m = false := by
  cases hb : allB xs n m with
  | false => rfl
  | true => exact absurd (allB_out hb k hk) h
theorem allB_step {xs : Nat → Int} {n : Int} {k : Nat} (h : allB xs n k = true) (h2 : 0 ≤ xs k ∧ xs k < n) : allB xs n (k + 1) = true := by
  simp [allB, h, h2]

set_option maxHeartbeats 1000000 in
theorem allBelow_any (a : Option Addr) (m c : Nat) (xs : Nat → Int) (n : Int) (w : World) (hs : Src w a m (fun i => .int .i64 (xs i))) (hm : m ≤ 1048576) :
    Calls Try.prog 25 #[.slice a m c, .int .i64 n] w fun e w' => e = .returned (.bool (allB xs n m)) ∧ w' = w := by
  have HS : Hid (Src w a m (fun i => .int .i64 (xs i))) := hs
  clear hs
  go_enter Try.func25, Try.ntmps25
  go_wp2
  go_loop [5] (fun v => ∃ k : Nat, k ≤ m ∧ v = .int .i64 k ∧ allB xs n k = true) (fun v => m - (intOf v).toNat)
  case atStart => exact ⟨0, by omega, rfl, rfl⟩
  case round =>
    obtain ⟨k, hk, rfl, hal⟩ := hrel
    have HA : Hid (allB xs n k = true) := hal
    clear hal
    by_cases hlt : k < m
    · obtain ⟨b, o, rfl, hb, hc⟩ := HS.out.2 (by omega)
      have y1 := hc k hlt
      clear hc
      by_cases g1 : xs k < 0
      · have HB : Hid (allB xs n m = false) := allB_bad hlt (by omega)
        go_wp2
        go_ret
        exact ⟨by rw [HB.out]; rfl, rfl⟩
      · by_cases g2 : n ≤ xs k
        · have HB : Hid (allB xs n m = false) := allB_bad hlt (by omega)
          go_wp2
          go_ret
          exact ⟨by rw [HB.out]; rfl, rfl⟩
        · go_wp2
          go_round
          case rel => exact ⟨k + 1, by omega, by go_num, allB_step HA.out (by omega)⟩
          case measure => simp [intOf]; omega
    · have : k = m := by omega
      have HB : Hid (allB xs n m = true) := by rw [← this]; exact HA.out
      clear this
      go_wp2
      go_ret
      exact ⟨by rw [HB.out]; rfl, rfl⟩
end Go.Proofs.Qxb6003691a
