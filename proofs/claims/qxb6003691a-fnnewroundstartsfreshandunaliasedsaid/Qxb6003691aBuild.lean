import Derived.Test.Qxb6003691aQueue
namespace Go.Proofs.Qxb6003691a
open Go.RowKit
set_option linter.unusedVariables false

set_option maxHeartbeats 2000000 in
theorem build_any (a1 a2 : Option Addr) (n c1 c2 : Nat) (A R : Nat → Int) (w : World) (hA : Src w a1 n (fun i => .int .u64 (A i))) (hR : Src w a2 n (fun i => .int .u32 (R i))) (hn : n ≤ 4096) :
    Calls Try.prog 40 #[.slice a1 n c1, .slice a2 n c2] w fun e w' => ∃ qb, e = .returned (.pointer (some ⟨qb, 0, none⟩)) ∧ ∃ hb g, Built n (fun i => (A i, R i)) g ∧ Que w' qb hb n g ∧ w.heap.size ≤ qb ∧ w.heap.size ≤ hb ∧ Below w.heap.size w w' := by
  rcases Nat.eq_zero_or_pos n with h0 | h0
  · have h0' : n < 1 := by omega
    clear h0
    go_enter Try.func40, Try.ntmps40
    go_wp2_with (go_at_call 50; refine (newQueue_any hn).mono ?_; rintro e w1 ⟨qb, hb, rfl, hQ, hqb, hhb, hB⟩)
    go_loopw [7] (fun v wr => v = .int .i64 0 ∧ wr = w1) (fun _ _ => 0)
    case atStart => exact ⟨rfl, rfl⟩
    case round =>
      obtain ⟨rfl, rfl⟩ := hrel
      go_wp2
      go_ret
      exact ⟨qb, rfl, hb, _, ⟨HFrom.one _ (by omega), fun x => cnt_congr (fun i hi => absurd hi (by omega)) x⟩, hQ, hqb, hhb, hB⟩
  · obtain ⟨b1, o1, rfl, hb1, hc1⟩ := hA.2 h0
    obtain ⟨b2, o2, rfl, hb2, hc2⟩ := hR.2 h0
    clear hA hR
    go_enter Try.func40, Try.ntmps40
    go_wp2_with (go_at_call 50; refine (newQueue_any hn).mono ?_; rintro e w1 ⟨qb, hb, rfl, hQ, hqb, hhb, hB⟩)
    go_loopw [7] (fun v wr => ∃ k : Nat, k ≤ n ∧ v = .int .i64 k ∧ Que wr qb hb n (PartE (fun i => (A i, R i)) k) ∧ Below w.heap.size w wr) (fun v _ => n - (intOf v).toNat)
    case atStart => exact ⟨0, by omega, rfl, hQ.congr (fun i _ => PartE.zero _ i), hB⟩
    case round =>
      clear hQ hB
      obtain ⟨k, hk, rfl, hQ, hB⟩ := hrel
      by_cases hlt : k < n
      · have x1 : wr.cell? ⟨b1, o1 + k, none⟩ = some (.int .u64 (A k)) := (hB.cell (p := ⟨b1, o1 + k, none⟩) hb1).trans (hc1 k hlt)
        have x2 : wr.cell? ⟨b2, o2 + k, none⟩ = some (.int .u32 (R k)) := (hB.cell (p := ⟨b2, o2 + k, none⟩) hb2).trans (hc2 k hlt)
        clear hc1 hc2
        go_wp2
        go_region_with (go_at_call 51; refine (setEntry_any hQ.drew hlt hn _ _).mono ?_; rintro e w' ⟨rfl, hQ', hK⟩)
        all_goals go_wp2
        all_goals go_roundw
        all_goals first
          | (case rel => exact ⟨k + 1, by omega, by go_num, hQ'.congr (fun i _ => PartE.step (fun i => (A i, R i)) k i), hB.drew.trans (hK.to_below hB.size (fun j hj e => by omega))⟩)
          | (case measure => simp [intOf]; omega)
      · clear hc1 hc2
        have hQ1 : Que wr qb hb n (fun i => (A i, R i)) := hQ.congr (fun i hi => by rw [show k = n by omega]; exact PartE.all _ n i hi)
        clear hQ
        by_cases h1 : 1 < n
        · go_wp2
          obtain ⟨z, hz⟩ : ∃ z : Int, z = ((n : Int) - 2) / 4 := ⟨_, rfl⟩
          rw [← hz, show decide ((1 : Int) < (n : Int)) = true from by simp; omega]
          generalize (n : Int) - 2 = y
          have HZ : Hid (z = ((n : Int) - 2) / 4) := hz
          have hz0 : 0 ≤ z := by omega
          have hzn : z < n := by omega
          clear hz
          go_loopw [8] (fun v wr => ∃ (i : Int) (g : Nat → Int × Int), -1 ≤ i ∧ i ≤ z ∧ v = .int .i64 i ∧ Que wr qb hb n g ∧ HFrom n (i + 1).toNat g ∧ (∀ x, cnt g n x = cnt (fun i => (A i, R i)) n x) ∧ Below w.heap.size w wr) (fun v _ => (intOf v + 1).toNat)
          case atStart => exact ⟨_, _, by omega, by omega, rfl, hQ1, by have hz := HZ.out; rw [show (z + 1).toNat = (n - 2) / 4 + 1 by omega]; exact HFrom.leafs n _, fun _ => rfl, hB⟩
          case round =>
            clear hQ1 hB
            obtain ⟨i, g, hi1, hi2, rfl, hQ, hH, hcnt, hB⟩ := hrel
            have HC : Hid (∀ x, cnt g n x = cnt (fun i => (A i, R i)) n x) := hcnt
            clear hcnt
            by_cases hi : 0 ≤ i
            · obtain ⟨t, rfl⟩ : ∃ t : Nat, i = (t : Int) := ⟨i.toNat, by omega⟩
              have htn : t < n := by omega
              have hH' : HFrom n (t + 1) g := by rw [show ((t : Int) + 1).toNat = t + 1 by omega] at hH; exact hH
              clear hH
              go_wp2_with (go_at_call 52; refine (zzDown_any hQ htn hn hH').mono ?_; rintro e w' ⟨rfl, g', hd, hQ', hK⟩)
              go_roundw
              case rel => exact ⟨(t : Int) - 1, g', by omega, by omega, rfl, hQ', by rw [show ((t : Int) - 1 + 1).toNat = t by omega]; exact hd.1, fun x => (hd.2 x).trans (HC.out x), hB.trans (hK.to_below hB.size (fun j hj e => by omega))⟩
              case measure => simp [intOf]
            · go_wp2
              go_ret
              exact ⟨qb, rfl, hb, g, ⟨by rw [show (i + 1).toNat = 0 by omega] at hH; exact hH, HC.out⟩, hQ, hqb, hhb, hB⟩
        · go_wp2
          go_ret
          exact ⟨qb, rfl, hb, _, ⟨HFrom.one _ (by omega), fun _ => rfl⟩, hQ1, hqb, hhb, hB⟩
end Go.Proofs.Qxb6003691a
