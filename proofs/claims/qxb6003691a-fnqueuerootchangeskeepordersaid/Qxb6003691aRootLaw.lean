import Derived.Test.Qxb6003691aG4
import Derived.Deep.Cut
namespace Go.Proofs.Qxb6003691a
open Go.RowKit
set_option linter.unusedVariables false

theorem Two.setFst {w : World} {ba br n : Nat} {f : Nat → Int × Int} (h : Two w ba br n f) (hne : ba ≠ br) (i : Nat) (v : Int) :
    Two (w.setCell ⟨ba, i, none⟩ (.int .u64 v)) ba br n (upd f i (v, (f i).2)) := by
  refine ⟨(h.1.set i _).congr (fun j _ => upd_fst f i (v, (f i).2) j), (h.2.setOther (fun e => hne e.symm) _).congr (fun j _ => ?_)⟩
  unfold upd
  by_cases e : j = i
  · subst e; simp
  · rw [if_neg e]

/-- The first of the first j entries of u that is x stands at idx; idx is -1 if there is none. -/
def Found (j : Nat) (idx : Int) (u : Nat → Int × Int) (x : Int × Int) : Prop := (idx = -1 ∧ ∀ t, t < j → u t ≠ x) ∨ ∃ t : Nat, t < j ∧ idx = (t : Int) ∧ u t = x
theorem found_no {j : Nat} {u : Nat → Int × Int} {x : Int × Int} (h : ∀ t, t < j → u t ≠ x) (hn : ¬ u j = x) : Found (j + 1) (-1) u x := by
  refine .inl ⟨rfl, fun t ht => ?_⟩
  by_cases e : t = j
  · rw [e]; exact hn
  · exact h t (by omega)

set_option maxRecDepth 100000 in
set_option maxHeartbeats 20000000 in
theorem root_core (a0 a1 a2 a3 : Option Addr) (n K cap0 cap1 cap2 cap3 : Nat) (A R V : Nat → Int) (D : Nat → Bool) (w : World) (hA : Src w a0 n (fun i => .int .u64 (A i))) (hR : Src w a1 n (fun i => .int .u32 (R i)))
    (hV : Src w a2 K (fun i => .int .u64 (V i))) (hD : Src w a3 K (fun i => .bool (D i))) (hn : n ≤ 1024) (hK : K ≤ 1024) (h0 : 0 < n) :
    Calls Try.prog 4 #[.slice a0 n cap0, .slice a1 n cap1, .slice a2 K cap2, .slice a3 K cap3] w fun e w' => e = .returned (.bool true) ∧ Below w.heap.size w w' := by
  have hd : decide (n + n + K + K ≤ 1048576) = true := decide_eq_true (by omega)
  go_enter Try.func4, Try.ntmps4
  go_wp2_with (go_at_call 15; refine (bytes15 _ _ _ _ _ _ _ _ _ _ _ _ _ (by unfold maxLen; omega) (by unfold maxLen; omega) (by unfold maxLen; omega) (by unfold maxLen; omega)).mono ?_; rintro e w' ⟨rfl, rfl⟩)
  clear hd
  go_wp2_with fail
  refine (copy8 _ _ _ _ _ hA (by omega)).mono ?_
  rintro e w1 ⟨a', rfl, ho, -, hB1⟩
  obtain ⟨ba, rfl, hba, hRa⟩ := ho.pos h0
  have hR1 := hR.below hB1
  have hV1 := hV.below hB1
  have hD1 := hD.below hB1
  clear ho hA hR hV hD
  go_wp2_with fail
  refine (copy9 _ _ _ _ _ hR1 (by omega)).mono ?_
  rintro e w2 ⟨a', rfl, ho, -, hB2⟩
  obtain ⟨br, rfl, hbr, hRr⟩ := ho.pos h0
  have hRa2 := hRa.below hB2
  have hV2 := hV1.below hB2
  have hD2 := hD1.below hB2
  have hB12 := hB1.trans (hB2.mono hB1.size)
  clear ho hR1 hRa hV1 hD1
  go_wp2_with fail
  refine (copy8 _ _ _ _ _ hV2 (by omega)).mono ?_
  rintro e w3 ⟨b2, rfl, hoV, -, hB3⟩
  have hRa3 := hRa2.below hB3
  have hRr3 := hRr.below hB3
  have hD3 := hD2.below hB3
  have hB13 := hB12.trans (hB3.mono hB12.size)
  clear hV2 hRa2 hRr hD2 hB1 hB2
  go_wp2_with fail
  refine (copy16 _ _ _ _ _ hD3 (by omega)).mono ?_
  rintro e w4 ⟨b3, rfl, hoD, -, hB4⟩
  have hRa4 := hRa3.below hB4
  have hRr4 := hRr3.below hB4
  have hB14 := hB13.trans (hB4.mono hB13.size)
  have hV4 := hoV.src.below hB4
  have hD4 := hoD.src
  clear hoV hoD hRa3 hRr3 hD3 hB12 hB3
  go_wp2_with fail
  refine (queueFrom_any _ _ _ _ _ _ _ _ hRa4.src hRr4.src (by omega)).mono ?_
  rintro e w5 ⟨qb, rfl, hb, hQ, hqb, hhb, hB5⟩
  have hRa5 := hRa4.below hB5
  have hRr5 := hRr4.below hB5
  have hV5 := hV4.below hB5
  have hD5 := hD4.below hB5
  have hB15 := hB14.trans (hB5.mono hB14.size)
  have n5 : ba < qb := by have := hRa4.lt; omega
  have n6 : ba < hb := by have := hRa4.lt; omega
  have n7 : br < qb := by have := hRr4.lt; omega
  have n8 : br < hb := by have := hRr4.lt; omega
  have n10 : w'.heap.size ≤ qb := by have := hB14.size; omega
  have n11 : w'.heap.size ≤ hb := by have := hB14.size; omega
  have HV : Hid (0 < K → ∃ b o, b2 = some ⟨b, o, none⟩ ∧ b < qb ∧ b < hb ∧ ∀ i, i < K → w5.cell? ⟨b, o + i, none⟩ = some (.int .u64 (V i))) := by
    intro h
    obtain ⟨b, o, e1, e2, e3⟩ := hV4.2 h
    exact ⟨b, o, e1, by omega, by omega, fun i hi => (hB5.cell (p := ⟨b, o + i, none⟩) e2).trans (e3 i hi)⟩
  have HD : Hid (0 < K → ∃ b o, b3 = some ⟨b, o, none⟩ ∧ b < qb ∧ b < hb ∧ ∀ i, i < K → w5.cell? ⟨b, o + i, none⟩ = some (.bool (D i))) := by
    intro h
    obtain ⟨b, o, e1, e2, e3⟩ := hD4.2 h
    exact ⟨b, o, e1, by omega, by omega, fun i hi => (hB5.cell (p := ⟨b, o + i, none⟩) e2).trans (e3 i hi)⟩
  clear hV4 hD4 hV5 hD5 hRa4 hRr4 hB14 hB5 hB13 hB4 hqb hhb
  go_wp2_with fail
  refine (heapify_any hQ (by omega)).mono ?_
  rintro e w6 ⟨rfl, q, hG, hQ6, hK6⟩
  have hRa6 := hRa5.keep hK6 (by omega)
  have hRr6 := hRr5.keep hK6 (by omega)
  have hB16 := hB15.trans (hK6.to_below hB15.size (fun j hj e => by omega))
  have K6 : Keep (fun b => b = hb ∨ b = qb) w5 w6 := hK6.mono (fun _ h => .inl h)
  have s5 : qb < w5.heap.size := hQ.lt
  have s6 : hb < w5.heap.size := hQ.heap.lt
  clear hQ hRa5 hRr5 hB15 hK6
  go_wp2_with fail
  refine (copy8 _ _ _ _ _ hRa6.src (by omega)).mono ?_
  rintro e w7 ⟨a', rfl, ho, -, hB7⟩
  obtain ⟨xa, rfl, hxa, hM1⟩ := ho.pos h0
  have hRr7 := hRr6.below hB7
  have hQ7 := hQ6.below hB7
  have hB17 := hB16.trans (hB7.mono hB16.size)
  have K7 := K6.below hB7
  have e1 : w5.heap.size ≤ xa := by have := K6.size; omega
  clear ho hRa6 hRr6 hQ6 hB16 hB7 K6
  go_wp2_with fail
  refine (copy9 _ _ _ _ _ hRr7.src (by omega)).mono ?_
  rintro e w8 ⟨a', rfl, ho, -, hB8⟩
  obtain ⟨xr, rfl, hxr, hM2⟩ := ho.pos h0
  have hM18 := hM1.below hB8
  have hQ8 := hQ7.below hB8
  have hB18 := hB17.trans (hB8.mono hB17.size)
  have K8 := K7.below hB8
  have e3 : xa < xr := by have := hM1.lt; omega
  clear ho hRr7 hQ7 hB17 hB8 hM1 K7
  have T : Two w8 xa xr n (fun i => (A i, R i)) := ⟨hM18, hM2⟩
  have AG : Agree n q (fun i => (A i, R i)) := ⟨hG.1, hG.2⟩
  have n12 : w'.heap.size ≤ xa := by have := hB18.size; omega
  clear hM18 hM2 hG hxa hxr hba hbr
  go_wp2_with fail
  go_cut [106] from 22 (fun v wc => v = .bool false ∧ Que wc qb hb n q ∧ Two wc xa xr n (fun i => (A i, R i)) ∧ Keep (fun b => b = hb ∨ b = qb) w5 wc ∧ Below w'.heap.size w' wc)
  case first =>
    clear HV HD
    go_region_with (first
      | (go_at_call 17; refine (same_any (f := fun i => (A i, R i)) hQ8.drew ⟨T.1.drew, T.2.drew⟩ (by omega) AG.same).mono ?_; rintro e w9 ⟨rfl, hB9⟩)
      | (go_at_call 12; refine (ordered_any (hQ8.drew.below hB9) (by omega) AG.heap).mono ?_; rintro e w10 ⟨rfl, rfl⟩))
    all_goals go_wp2
    all_goals go_meet
    all_goals (case rel => exact ⟨rfl, hQ8.drew.below hB9, Two.below ⟨T.1.drew, T.2.drew⟩ hB9, K8.drew.below hB9, hB18.drew.trans (hB9.mono hB18.size)⟩)
  case rest =>
    clear hQ8 T K8 hB18
    obtain ⟨rfl, hQ, hT, hKp, hB⟩ := hcut
    go_wp2
    go_loopw [12, 13] (fun x v wr => ∃ (k m : Nat) (q u : Nat → Int × Int), k ≤ K ∧ m ≤ n ∧ x = .int .i64 m ∧ v = .int .i64 k ∧ Agree m q u ∧ Que wr qb hb m q ∧ Two wr xa xr n u ∧ Keep (fun b => b = hb ∨ b = qb) w5 wr ∧ Below w'.heap.size w' wr) (fun _ v _ => K - (intOf v).toNat)
    case atStart => exact ⟨0, n, q, _, by omega, by omega, rfl, rfl, AG, hQ, hT, hKp, hB⟩
    case round =>
      clear AG hQ hT hKp hB
      obtain ⟨k, m, q, u, hk, hm, rfl, rfl, AG, hQ, hT, hKp, hB⟩ := hrel
      by_cases hlt : k < K
      · by_cases hm0 : m < 1
        · have hTm := hT.less hm
          go_wp2_with fail
          refine (copy8 _ _ _ _ _ hTm.1.src (by omega)).mono ?_
          rintro e z2 ⟨a', rfl, ho, hnil, hB2⟩
          obtain ⟨fa, rfl, hfa, hF1⟩ := ho.of_some (by rw [ne_eq, hnil]; simp)
          have hT2 := hTm.below hB2
          have hQ2 := hQ.below hB2
          have hBB := hB.trans (hB2.mono hB.size)
          have f1 : qb < fa := by have := hQ.lt; omega
          have f2 : hb < fa := by have := hQ.heap.lt; omega
          have f3 : w'.heap.size ≤ fa := by have := hB.size; omega
          clear ho hnil hTm hT hQ hB hB2 hKp
          go_wp2_with fail
          refine (copy9 _ _ _ _ _ hT2.2.src (by omega)).mono ?_
          rintro e z3 ⟨a', rfl, ho, hnil, hB3⟩
          obtain ⟨fr, rfl, hfr, hF2⟩ := ho.of_some (by rw [ne_eq, hnil]; simp)
          have T3 : Two z3 fa fr m u := ⟨hF1.below hB3, hF2⟩
          have hQ3 := hQ2.below hB3
          have hBB3 := hBB.trans (hB3.mono hBB.size)
          have f4 : fa < fr := by have := hF1.lt; omega
          clear ho hnil hT2 hQ2 hBB hB3 hF1 hF2
          go_wp2_with fail
          refine (sort_any fa fr m _ _ u _ T3 (by omega) (by omega)).mono ?_
          rintro e z4 ⟨rfl, g, hS, hT4, hK4⟩
          have hQ4 := hQ3.keep hK4 (by omega) (by omega)
          have hBB4 := hBB3.trans (hK4.to_below hBB3.size (fun j hj e => by omega))
          clear T3 hQ3 hBB3 hK4
          go_wp2_with fail
          refine (drains_any hQ4 hT4 (by omega) (Left.start AG.heap AG.same hS.2) hS.1 (by omega) (by omega) (by omega) (by omega)).mono ?_
          rintro e z5 ⟨rfl, hK5⟩
          have HBB : Hid (Below w'.heap.size w' z5) := hBB4.trans (hK5.to_below hBB4.size (fun j hj e => by omega))
          clear hQ4 hT4 hBB4 hK5
          go_wp2
          go_ret
          exact ⟨rfl, HBB.out⟩
        · obtain ⟨bv, ov, rfl, v1, v2, hv⟩ := HV.out (by omega)
          obtain ⟨bd, od, rfl, d1, d2, hdd⟩ := HD.out (by omega)
          have y1 : wr.cell? ⟨bv, ov + k, none⟩ = some (.int .u64 (V k)) := (hKp.cell (a := ⟨bv, ov + k, none⟩) (by show bv < _; omega) (by show ¬ (bv = hb ∨ bv = qb); omega)).trans (hv k hlt)
          have y2 : wr.cell? ⟨bd, od + k, none⟩ = some (.bool (D k)) := (hKp.cell (a := ⟨bd, od + k, none⟩) (by show bd < _; omega) (by show ¬ (bd = hb ∨ bd = qb); omega)).trans (hdd k hlt)
          clear hv hdd
          go_wp2_with fail
          refine (allowance_zero hQ (by omega) (by omega) rfl).mono ?_
          rintro e wx ⟨rfl, rfl⟩
          go_wp2_with fail
          refine (rank_zero hQ (by omega) (by omega) rfl).mono ?_
          rintro e wx ⟨rfl, rfl⟩
          go_wp2
          try rw [show ((m : Int) == 0) = false from by simp; omega]
          go_loopw [16, 17] (fun x v wi => ∃ (j : Nat) (idx : Int), j ≤ m ∧ x = .int .i64 idx ∧ v = .int .i64 j ∧ Found j idx u (q 0) ∧ ∃ d, wi = wx.drewN d) (fun _ v _ => m - (intOf v).toNat)
          case atStart => exact ⟨0, -1, by omega, rfl, rfl, .inl ⟨rfl, fun t ht => absurd ht (by omega)⟩, 0, rfl⟩
          case round =>
            obtain ⟨j, idx, hj, rfl, rfl, hF, d, rfl⟩ := hrel
            by_cases hjlt : j < m
            · have x1 := hT.1.cell (i := j) (by omega)
              have x2 := hT.2.cell (i := j) (by omega)
              have z1 : (j : Int) < (n : Int) := by omega
              have hbe : bef (u j) (q 0) = false := AG.low hjlt
              have HT : Hid (Two wx xa xr n u) := hT
              have HA : Hid (Agree m q u) := AG
              clear hT AG y1 y2
              rcases hF with ⟨rfl, hno⟩ | ⟨t, ht, rfl, hu⟩
              · by_cases c1 : (u j).1 = (q 0).1
                · by_cases c2 : (u j).2 = (q 0).2
                  · have HU : Hid (Found (j + 1) (j : Int) u (q 0)) := .inr ⟨j, by omega, rfl, Prod.ext c1 c2⟩
                    have e1 : ((u j).1 == (q 0).1) = true := by simpa using c1
                    have e2 : ((u j).2 == (q 0).2) = true := by simpa using c2
                    clear hno c1 c2
                    go_wp2
                    go_quiet (first | (go_at_call 20; exact (takeFirst20 _ _ _).mono (fun _ _ h => ⟨h.1, _, h.2⟩)))
                    rw [hbe]
                    go_wp2
                    go_roundw
                    case rel => exact ⟨j + 1, _, by omega, rfl, by go_num, HU.out, _, rfl⟩
                    case measure => simp [intOf]; omega
                  · have HU : Hid (Found (j + 1) (-1) u (q 0)) := found_no hno (fun h => c2 (by rw [h]))
                    have e1 : ((u j).1 == (q 0).1) = true := by simpa using c1
                    have e2 : ((u j).2 == (q 0).2) = false := by simpa using c2
                    clear hno c1 c2
                    go_wp2
                    go_quiet (first | (go_at_call 20; exact (takeFirst20 _ _ _).mono (fun _ _ h => ⟨h.1, _, h.2⟩)))
                    rw [hbe]
                    go_wp2
                    go_roundw
                    case rel => exact ⟨j + 1, _, by omega, rfl, by go_num, HU.out, _, rfl⟩
                    case measure => simp [intOf]; omega
                · have HU : Hid (Found (j + 1) (-1) u (q 0)) := found_no hno (fun h => c1 (by rw [h]))
                  have e1 : ((u j).1 == (q 0).1) = false := by simpa using c1
                  clear hno c1
                  go_wp2
                  go_quiet (first | (go_at_call 20; exact (takeFirst20 _ _ _).mono (fun _ _ h => ⟨h.1, _, h.2⟩)))
                  rw [hbe]
                  go_wp2
                  go_roundw
                  case rel => exact ⟨j + 1, _, by omega, rfl, by go_num, HU.out, _, rfl⟩
                  case measure => simp [intOf]; omega
              · have HU : Hid (Found (j + 1) (t : Int) u (q 0)) := .inr ⟨t, by omega, rfl, hu⟩
                clear hu
                go_wp2
                go_quiet (first | (go_at_call 20; exact (takeFirst20 _ _ _).mono (fun _ _ h => ⟨h.1, _, h.2⟩)))
                rw [hbe]
                go_wp2
                go_roundw
                case rel => exact ⟨j + 1, _, by omega, rfl, by go_num, HU.out, _, rfl⟩
                case measure => simp [intOf]; omega
            · obtain ⟨t, ht, rfl, hu⟩ : ∃ t : Nat, t < m ∧ idx = (t : Int) ∧ u t = q 0 := by
                rcases hF with ⟨_, hno⟩ | ⟨t, ht, e, hu⟩
                · obtain ⟨i, hi, e⟩ := AG.there (by omega)
                  exact absurd e (hno i (by omega))
                · exact ⟨t, by omega, e, hu⟩
              have HU : Hid (u t = q 0) := hu
              clear hF hu
              cases hdk : D k
              · rw [hdk] at y2
                go_wp2_with fail
                refine (setAllowance_zero (Que.drewN hQ _) (by omega) (by omega) _).mono ?_
                rintro e z2 ⟨rfl, hQ2, hK2⟩
                go_wp2_with fail
                refine (queueDown_zero hQ2 (by omega) (by omega) (turn_start AG.heap _)).mono ?_
                rintro e z3 ⟨rfl, q', hdn, hQ3, hK3⟩
                have AG4 := AG.turn (by omega) ht HU.out (V k) hdn
                have KK : Keep (fun b => b = hb) wx z3 := (Keep.trans (Keep.drewN (Keep.refl _ wx) d) hK2).trans hK3
                have hT3 := hT.keep KK (by omega) (by omega)
                have y3 : z3.cell? ⟨bv, ov + k, none⟩ = some (.int .u64 (V k)) := (KK.cell (a := ⟨bv, ov + k, none⟩) (lt_of_cell y1) (by show ¬ bv = hb; omega)).trans y1
                have x1 := hT3.1.cell (i := t) (by omega)
                have x2 := hT3.1.frozen t
                have hQ4 := hQ3.setOther (a := ⟨xa, t, none⟩) (show qb ≠ xa by omega) (show hb ≠ xa by omega) (.int .u64 (V k))
                have hT4 := hT3.setFst (show xa ≠ xr by omega) t (V k)
                have hK4 : Keep (fun b => b = hb ∨ b = qb) w5 (z3.setCell ⟨xa, t, none⟩ (.int .u64 (V k))) := ((hKp.trans (KK.mono (fun _ h => .inl h))).setCell (.inr e1) _)
                have hBB4 : Below w'.heap.size w' (z3.setCell ⟨xa, t, none⟩ (.int .u64 (V k))) := (hB.trans (KK.to_below hB.size (fun j hj e => by omega))).setCell n12 _
                clear hQ hT hKp hB AG hQ2 hQ3 hK2 hK3 hdn KK hT3 y1
                go_wp2_with fail
                go_region_with (go_at_call 17; refine (same_any hQ4.drew (Two.less ⟨hT4.1.drew, hT4.2.drew⟩ (by omega)) (by omega) AG4.same).mono ?_; rintro e z9 ⟨rfl, hB9⟩)
                all_goals
                  have hQ5 := hQ4.drew.below hB9
                  have HR : Hid _ := And.intro AG4 (And.intro hQ5 (And.intro (Two.below (w := _) ⟨hT4.1.drew, hT4.2.drew⟩ hB9) (And.intro (hK4.drew.below hB9) (hBB4.drew.trans (hB9.mono hBB4.size)))))
                  go_wp2_with fail
                  refine (ordered_any hQ5 (by omega) AG4.heap).mono ?_
                  rintro e z10 ⟨rfl, rfl⟩
                  go_wp2
                  go_roundw
                  case rel => exact ⟨k + 1, m, _, _, by omega, by omega, by go_num, by go_num, HR.out⟩
                  case measure => simp [intOf]; omega
              · rw [hdk] at y2
                obtain ⟨m, rfl⟩ : ∃ m', m = m' + 1 := ⟨m - 1, by omega⟩
                go_wp2_with fail
                refine (queueDropFirst_any (Que.drewN hQ _) (by omega) AG.heap).mono ?_
                rintro e z3 ⟨rfl, q', hdn, hQ3, hK3⟩
                have AG4 := AG.drop ht HU.out hdn
                have KK : Keep (fun b => b = hb ∨ b = qb) wx z3 := Keep.trans (Keep.drewN (Keep.refl _ wx) d) hK3
                have hT3 := hT.keep KK (by omega) (by omega)
                have x1 := hT3.1.cell (i := m) (by omega)
                have x2 := hT3.2.cell (i := m) (by omega)
                have x3 := hT3.1.cell (i := t) (by omega)
                have x4 := hT3.2.cell (i := t) (by omega)
                have x5 := hT3.1.frozen t
                have x6 := hT3.2.frozen t
                have hQ4 := (hQ3.setOther (a := ⟨xa, t, none⟩) (show qb ≠ xa by omega) (show hb ≠ xa by omega) (.int .u64 (u m).1)).setOther (a := ⟨xr, t, none⟩) (show qb ≠ xr by omega) (show hb ≠ xr by omega) (.int .u32 (u m).2)
                have hT4 := hT3.set (show xa ≠ xr by omega) t (u m)
                have hK4 : Keep (fun b => b = hb ∨ b = qb) w5 ((z3.setCell ⟨xa, t, none⟩ (.int .u64 (u m).1)).setCell ⟨xr, t, none⟩ (.int .u32 (u m).2)) := ((hKp.trans KK).setCell (.inr e1) _).setCell (.inr (show w5.heap.size ≤ xr by omega)) _
                have hBB4 : Below w'.heap.size w' ((z3.setCell ⟨xa, t, none⟩ (.int .u64 (u m).1)).setCell ⟨xr, t, none⟩ (.int .u32 (u m).2)) := ((hB.trans (KK.to_below hB.size (fun j hj e => by omega))).setCell n12 _).setCell (show w'.heap.size ≤ xr by omega) _
                have g1 : ∀ v, (z3.setCell ⟨xa, t, none⟩ v).cell? ⟨xr, t, none⟩ = some (.int .u32 (u t).2) := fun v => (hT3.2.setOther (show xr ≠ xa by omega) v).cell (by omega)
                have g2 : ∀ v, (z3.setCell ⟨xa, t, none⟩ v).frozen? ⟨xr, t, none⟩ = false := fun v => (hT3.2.setOther (show xr ≠ xa by omega) v).frozen t
                clear hQ hT hKp hB AG hQ3 hK3 hdn KK hT3 y1
                go_wp2_with fail
                go_region_with (go_at_call 17; refine (same_any hQ4.drew (Two.less ⟨hT4.1.drew, hT4.2.drew⟩ (by omega)) (by omega) AG4.same).mono ?_; rintro e z9 ⟨rfl, hB9⟩)
                all_goals
                  have hQ5 := hQ4.drew.below hB9
                  have HR : Hid _ := And.intro AG4 (And.intro hQ5 (And.intro (Two.below (w := _) ⟨hT4.1.drew, hT4.2.drew⟩ hB9) (And.intro (hK4.drew.below hB9) (hBB4.drew.trans (hB9.mono hBB4.size)))))
                  go_wp2_with fail
                  refine (ordered_any hQ5 (by omega) AG4.heap).mono ?_
                  rintro e z10 ⟨rfl, rfl⟩
                  go_wp2
                  go_roundw
                  case rel => exact ⟨k + 1, m, _, _, by omega, by omega, by go_num, by go_num, HR.out⟩
                  case measure => simp [intOf]; omega
      · have hTm := hT.less hm
        go_wp2_with fail
        refine (copy8 _ _ _ _ _ hTm.1.src (by omega)).mono ?_
        rintro e z2 ⟨a', rfl, ho, hnil, hB2⟩
        obtain ⟨fa, rfl, hfa, hF1⟩ := ho.of_some (by rw [ne_eq, hnil]; simp)
        have hT2 := hTm.below hB2
        have hQ2 := hQ.below hB2
        have hBB := hB.trans (hB2.mono hB.size)
        have f1 : qb < fa := by have := hQ.lt; omega
        have f2 : hb < fa := by have := hQ.heap.lt; omega
        have f3 : w'.heap.size ≤ fa := by have := hB.size; omega
        clear ho hnil hTm hT hQ hB hB2 hKp
        go_wp2_with fail
        refine (copy9 _ _ _ _ _ hT2.2.src (by omega)).mono ?_
        rintro e z3 ⟨a', rfl, ho, hnil, hB3⟩
        obtain ⟨fr, rfl, hfr, hF2⟩ := ho.of_some (by rw [ne_eq, hnil]; simp)
        have T3 : Two z3 fa fr m u := ⟨hF1.below hB3, hF2⟩
        have hQ3 := hQ2.below hB3
        have hBB3 := hBB.trans (hB3.mono hBB.size)
        have f4 : fa < fr := by have := hF1.lt; omega
        clear ho hnil hT2 hQ2 hBB hB3 hF1 hF2
        go_wp2_with fail
        refine (sort_any fa fr m _ _ u _ T3 (by omega) (by omega)).mono ?_
        rintro e z4 ⟨rfl, g, hS, hT4, hK4⟩
        have hQ4 := hQ3.keep hK4 (by omega) (by omega)
        have hBB4 := hBB3.trans (hK4.to_below hBB3.size (fun j hj e => by omega))
        clear T3 hQ3 hBB3 hK4
        go_wp2_with fail
        refine (drains_any hQ4 hT4 (by omega) (Left.start AG.heap AG.same hS.2) hS.1 (by omega) (by omega) (by omega) (by omega)).mono ?_
        rintro e z5 ⟨rfl, hK5⟩
        have HBB : Hid (Below w'.heap.size w' z5) := hBB4.trans (hK5.to_below hBB4.size (fun j hj e => by omega))
        clear hQ4 hT4 hBB4 hK5
        go_wp2
        go_ret
        exact ⟨rfl, HBB.out⟩
end Go.Proofs.Qxb6003691a
