import Derived.Test.Qxb6003691aDropLaw
import Derived.Test.Qxb6003691aPlain2
namespace Go.Proofs.Qxb6003691a
open Go.RowKit
set_option linter.unusedVariables false

theorem bytes7 (a0 a1 : Option Addr) (l0 c0 l1 c1 : Nat) (w : World) (h0 : l0 ≤ maxLen) (h1 : l1 ≤ maxLen) :
    Calls Try.prog 7 #[.slice a0 l0 c0, .slice a1 l1 c1] w fun e w' => e = .returned (.bool (decide (l0 + l1 ≤ 1048576))) ∧ w' = w := by
  unfold maxLen at h0 h1
  by_cases x0 : l0 ≤ 1048576
  · by_cases x1 : l1 ≤ 1048576
    · by_cases x2 : l0 + l1 ≤ 1048576
      · rw [decide_eq_true x2]
        go_enter Try.func7, Try.ntmps7
        go_wp2
        go_ret
        exact ⟨rfl, rfl⟩
      · rw [decide_eq_false x2]
        go_enter Try.func7, Try.ntmps7
        go_wp2
        go_ret
        exact ⟨rfl, rfl⟩
    · rw [decide_eq_false (by omega)]
      go_enter Try.func7, Try.ntmps7
      go_wp2
      go_ret
      exact ⟨rfl, rfl⟩
  · rw [decide_eq_false (by omega)]
    go_enter Try.func7, Try.ntmps7
    go_wp2
    go_ret
    exact ⟨rfl, rfl⟩

theorem takeFirst20 (x y : Int × Int) (w : World) :
    Calls Try.prog 20 #[.int .u64 x.1, .int .u32 x.2, .int .u64 y.1, .int .u32 y.2] w fun e w' => e = .returned (.bool (bef x y)) ∧ w' = w := by
  obtain ⟨a, r⟩ := x
  obtain ⟨b, s⟩ := y
  rcases Int.lt_trichotomy a b with h | h | h
  · have h1 : bef (a, r) (b, s) = false := bef_lt h
    rw [h1]
    clear h1
    have h2 : ¬ b < a := by omega
    have h3 : (a == b) = false := by simp; omega
    go_enter Try.func20, Try.ntmps20
    go_wp2
    go_ret
    exact ⟨rfl, rfl⟩
  · subst h
    have h1 : bef (a, r) (a, s) = decide (r < s) := bef_eq rfl
    rw [h1]
    clear h1
    go_enter Try.func20, Try.ntmps20
    go_wp2
    go_ret
    exact ⟨rfl, rfl⟩
  · have h1 : bef (a, r) (b, s) = true := bef_gt h
    rw [h1]
    clear h1
    have h3 : (a == b) = false := by simp; omega
    go_enter Try.func20, Try.ntmps20
    go_wp2
    go_ret
    exact ⟨rfl, rfl⟩


set_option maxHeartbeats 1000000 in
theorem queueFrom_any (a1 a2 : Option Addr) (n c1 c2 : Nat) (A R : Nat → Int) (w : World) (hA : Src w a1 n (fun i => .int .u64 (A i))) (hR : Src w a2 n (fun i => .int .u32 (R i))) (hn : n ≤ 4096) :
    Calls Try.prog 10 #[.slice a1 n c1, .slice a2 n c2] w fun e w' => ∃ qb, e = .returned (.pointer (some ⟨qb, 0, none⟩)) ∧ ∃ hb, Que w' qb hb n (fun i => (A i, R i)) ∧ w.heap.size ≤ qb ∧ w.heap.size ≤ hb ∧ Below w.heap.size w w' := by
  have hmk := make_queued n (by omega)
  have HA : Hid (Src w a1 n (fun i => .int .u64 (A i))) := hA
  have HR : Hid (Src w a2 n (fun i => .int .u32 (R i))) := hR
  clear hA hR
  go_enter Try.func10, Try.ntmps10
  go_wp2
  obtain ⟨W, hW⟩ : ∃ W, W = w.alloc (Obj.cells (madeCells #[Value.int IntKind.u64 0, Value.int IntKind.u32 0] (n * 2)) 72) := ⟨_, rfl⟩
  rw [← hW]
  obtain ⟨hb, hhb⟩ : ∃ hb, hb = w.heap.size := ⟨_, rfl⟩
  have BW : Below w.heap.size w W := by rw [hW]; exact (Below.refl _ _).alloc (Nat.le_refl _) _
  have H0 : Heap W hb n (fun _ => (0, 0)) := by rw [hW, hhb]; exact Heap.made w n
  rw [← hhb] at BW ⊢
  have HB : Hid (hb = w.heap.size) := hhb
  clear hmk hW hhb
  go_loopw [12] (fun v wr => ∃ k : Nat, k ≤ n ∧ v = .int .i64 k ∧ Heap wr hb n (PartE (fun i => (A i, R i)) k) ∧ Below hb w wr) (fun v _ => n - (intOf v).toNat)
  case atStart => exact ⟨0, by omega, rfl, H0.congr (fun i _ => PartE.zero _ i), BW⟩
  case round =>
    clear H0 BW
    obtain ⟨k, hk, rfl, hH, hB⟩ := hrel
    by_cases hlt : k < n
    · obtain ⟨b1, o1, rfl, hb1, hc1⟩ := HA.out.2 (by omega)
      obtain ⟨b2, o2, rfl, hb2, hc2⟩ := HR.out.2 (by omega)
      have x1 : wr.cell? ⟨b1, o1 + k, none⟩ = some (.int .u64 (A k)) := (hB.cell (p := ⟨b1, o1 + k, none⟩) (by rw [HB.out]; exact hb1)).trans (hc1 k hlt)
      have x2 : wr.cell? ⟨b2, o2 + k, none⟩ = some (.int .u32 (R k)) := (hB.cell (p := ⟨b2, o2 + k, none⟩) (by rw [HB.out]; exact hb2)).trans (hc2 k hlt)
      have y1 := hH.fst hlt
      have y2 := hH.snd hlt
      have y3 := hH.frozen (k * 2)
      have y4 := hH.frozen (k * 2 + 1)
      have h1 := (hH.set hlt (A k, R k)).congr (fun i _ => PartE.step (fun i => (A i, R i)) k i)
      have h2 : Below hb w ((wr.setCell ⟨hb, k * 2, none⟩ (.int .u64 (A k))).setCell ⟨hb, k * 2 + 1, none⟩ (.int .u32 (R k))) := (hB.setCell (Nat.le_refl _) _).setCell (Nat.le_refl _) _
      have HH : Hid _ := And.intro h1 h2
      clear hc1 hc2 hH hB h1 h2
      go_wp2
      go_region
      all_goals (try go_wp2)
      all_goals go_roundw
      all_goals first
        | (case rel => exact ⟨k + 1, by omega, by go_num, HH.out.1.drew, HH.out.2.drew⟩)
        | (case measure => simp [intOf]; omega)
    · have hH1 : Heap wr hb n (fun i => (A i, R i)) := hH.congr (fun i hi => by rw [show k = n by omega]; exact PartE.all _ n i hi)
      clear hH
      go_wp2
      go_ret
      have h1 : (wr.alloc (.cells #[.slice (some ⟨hb, 0, none⟩) n n, .slice none 0 0] 75)).heap[wr.heap.size]? = some (.cells #[.slice (some ⟨hb, 0, none⟩) n n, .slice none 0 0] 75 (0, 0)) := by
        show (wr.heap.push _)[_]? = _; simp
      have h2 := hH1.lt
      rw [← HB.out]
      exact ⟨wr.heap.size, rfl, hb, ⟨n, h1, Nat.le_refl _, hH1.alloc _, by omega⟩, by omega, Nat.le_refl _, hB.alloc (by omega) _⟩

set_option maxHeartbeats 1000000 in
theorem heapify_any {w : World} {qb hb n : Nat} {f : Nat → Int × Int} (h : Que w qb hb n f) (hn : n ≤ 4096) :
    Calls Try.prog 11 #[.pointer (some ⟨qb, 0, none⟩)] w fun e w' => e = .returned (.tuple #[]) ∧ ∃ g, Built n f g ∧ Que w' qb hb n g ∧ Keep (fun b => b = hb) w w' := by
  by_cases h1 : 1 < n
  · go_enter Try.func11, Try.ntmps11
    go_wp2_with (go_at_call 46; refine (queueLen_any h).mono ?_; rintro e w' ⟨rfl, rfl⟩)
    obtain ⟨z, hz⟩ : ∃ z : Int, z = ((n : Int) - 2) / 4 := ⟨_, rfl⟩
    rw [← hz, show decide ((1 : Int) < (n : Int)) = true from by simp; omega]
    generalize (n : Int) - 2 = y
    have HZ : Hid (z = ((n : Int) - 2) / 4) := hz
    have hz0 : 0 ≤ z := by omega
    have hzn : z < n := by omega
    clear hz
    go_loopw [3] (fun v wr => ∃ (i : Int) (g : Nat → Int × Int), -1 ≤ i ∧ i ≤ z ∧ v = .int .i64 i ∧ Que wr qb hb n g ∧ HFrom n (i + 1).toNat g ∧ (∀ x, cnt g n x = cnt f n x) ∧ Keep (fun b => b = hb) w' wr) (fun v _ => (intOf v + 1).toNat)
    case atStart => exact ⟨_, _, by omega, by omega, rfl, h, by have hz := HZ.out; rw [show (z + 1).toNat = (n - 2) / 4 + 1 by omega]; exact HFrom.leafs n _, fun _ => rfl, Keep.refl _ _⟩
    case round =>
      clear h
      obtain ⟨i, g, hi1, hi2, rfl, hQ, hH, hcnt, hK⟩ := hrel
      have HC : Hid (∀ x, cnt g n x = cnt f n x) := hcnt
      clear hcnt
      by_cases hi : 0 ≤ i
      · obtain ⟨t, rfl⟩ : ∃ t : Nat, i = (t : Int) := ⟨i.toNat, by omega⟩
        have htn : t < n := by omega
        have hH' : HFrom n (t + 1) g := by rw [show ((t : Int) + 1).toNat = t + 1 by omega] at hH; exact hH
        clear hH
        go_wp2_with (go_at_call 23; refine (queueDown_any hQ htn hn hH').mono ?_; rintro e w2 ⟨rfl, g', hd, hQ', hK2⟩)
        go_roundw
        case rel => exact ⟨(t : Int) - 1, g', by omega, by omega, rfl, hQ', by rw [show ((t : Int) - 1 + 1).toNat = t by omega]; exact hd.1, fun x => (hd.2 x).trans (HC.out x), hK.trans hK2⟩
        case measure => simp [intOf]
      · go_wp2
        go_end0
        exact ⟨rfl, g, ⟨by rw [show (i + 1).toNat = 0 by omega] at hH; exact hH, HC.out⟩, hQ, hK⟩
  · go_enter Try.func11, Try.ntmps11
    go_wp2_with (go_at_call 46; refine (queueLen_any h).mono ?_; rintro e w' ⟨rfl, rfl⟩)
    go_end0
    exact ⟨rfl, f, ⟨HFrom.one _ (by omega), fun _ => rfl⟩, h, Keep.refl _ _⟩

set_option maxHeartbeats 1000000 in
theorem ordered_any {w : World} {qb hb n : Nat} {f : Nat → Int × Int} (h : Que w qb hb n f) (hn : n ≤ 4096) (hH : HFrom n 0 f) :
    Calls Try.prog 12 #[.pointer (some ⟨qb, 0, none⟩)] w fun e w' => e = .returned (.bool true) ∧ w' = w := by
  go_enter Try.func12, Try.ntmps12
  go_wp2_with (go_at_call 46; refine (queueLen_any h).mono ?_; rintro e w' ⟨rfl, rfl⟩)
  go_loop [4] (fun v => ∃ k : Nat, 1 ≤ k ∧ v = .int .i64 k) (fun v => n - (intOf v).toNat)
  case atStart => exact ⟨1, by omega, rfl⟩
  case round =>
    obtain ⟨k, hk, rfl⟩ := hrel
    by_cases hlt : k < n
    · obtain ⟨p, hp⟩ : ∃ p : Nat, p = (k - 1) / 4 := ⟨_, rfl⟩
      have hbe : bef (f k) (f p) = false := by rw [hp]; exact hH k hk hlt (by omega)
      have HPI : Hid (((k : Int) - 1) / 4 = (p : Int)) := by show ((k : Int) - 1) / 4 = (p : Int); omega
      have hpn : p < n := by omega
      clear hp
      go_wp2_with fail
      rw [HPI.out]
      refine (allowance_any h hlt hn).mono ?_
      rintro e w2 ⟨rfl, rfl⟩
      go_wp2_with fail
      refine (rank_any h hlt hn).mono ?_
      rintro e w2 ⟨rfl, rfl⟩
      go_wp2_with fail
      refine (allowance_any h hpn hn).mono ?_
      rintro e w2 ⟨rfl, rfl⟩
      go_wp2_with fail
      refine (rank_any h hpn hn).mono ?_
      rintro e w2 ⟨rfl, rfl⟩
      go_wp2_with fail
      refine (takeFirst20 (f k) (f p) _).mono ?_
      rintro e w2 ⟨rfl, rfl⟩
      rw [hbe]
      go_wp2
      go_round
      case rel => exact ⟨k + 1, by omega, by go_num⟩
      case measure => simp [intOf]; omega
    · go_wp2
      go_ret
      exact ⟨rfl, rfl⟩
end Go.Proofs.Qxb6003691a
