import Derived.Test.Qxb6003691aFind
import Derived.Deep.QuietTactic
import Derived.BigQuiet
namespace Go.Proofs.Qxb6003691a
open Go.RowKit
set_option linter.unusedVariables false

theorem Own.pos {B : Nat} {w : World} {a : Option Addr} {n : Nat} {F : Nat → Value} (h : Own B w a n F) (hn : 0 < n) : ∃ b, a = some ⟨b, 0, none⟩ ∧ B ≤ b ∧ Row w b n F := by
  rcases h with ⟨_, h⟩ | ⟨b, h1, h2, h3⟩
  · omega
  · exact ⟨b, h2, h1, h3⟩

theorem Src.below {w w' : World} {a : Option Addr} {n : Nat} {F : Nat → Value} (h : Src w a n F) (k : Below w.heap.size w w') : Src w' a n F := by
  refine ⟨h.1, fun hn => ?_⟩
  obtain ⟨b, o, h1, h2, h3⟩ := h.2 hn
  exact ⟨b, o, h1, by have := k.size; omega, fun i hi => (k.cell (p := ⟨b, o + i, none⟩) h2).trans (h3 i hi)⟩

theorem Row.src {w : World} {b n : Nat} {F : Nat → Value} (h : Row w b n F) : Src w (some ⟨b, 0, none⟩) n F :=
  ⟨fun h => (by cases h), fun _ => ⟨b, 0, rfl, h.lt, fun i hi => by simpa using h.cell hi⟩⟩

theorem upd_fst (o : Nat → Int × Int) (k : Nat) (x : Int × Int) (i : Nat) : vupd (fun i => .int .u64 (o i).1) k (.int .u64 x.1) i = .int .u64 (upd o k x i).1 := by
  unfold vupd upd; split <;> rfl
theorem upd_snd (o : Nat → Int × Int) (k : Nat) (x : Int × Int) (i : Nat) : vupd (fun i => .int .u32 (o i).2) k (.int .u32 x.2) i = .int .u32 (upd o k x i).2 := by
  unfold vupd upd; split <;> rfl
theorem upd_bool (U : Nat → Bool) (k : Nat) (i : Nat) : vupd (fun i => .bool (U i)) k (.bool true) i = .bool (bupd U k i) := by
  unfold vupd bupd; split <;> rfl

theorem entry_zero {w : World} {qb hb n : Nat} {f : Nat → Int × Int} (h : Que w qb hb n f) (hi : 0 < n) (hn : n ≤ 4096) :
    Calls Try.prog 42 #[.pointer (some ⟨qb, 0, none⟩), .int .i64 0] w fun e w' => e = .returned (.tuple #[.int .u64 (f 0).1, .int .u32 (f 0).2]) ∧ Below w.heap.size w w' :=
  entry_any h (i := 0) hi hn

/-- What a round of the draining loop does to the world. -/
theorem drop_round {w w4 w5 w6 : World} {n k m oa ba br qb hb : Nat} {g g' o f : Nat → Int × Int} {A R : Nat → Int}
    (D : Drain n k (m + 1) f g o) (hk : k < n) (Q : Que w4 qb hb (m + 1) g) (R1 : Row w4 oa n (fun i => .int .u64 (o i).1)) (R2 : Row w4 (oa + 1) n (fun i => .int .u32 (o i).2))
    (R3 : Row w4 ba n (fun i => .int .u64 (A i))) (R4 : Row w4 br n (fun i => .int .u32 (R i))) (B : Below w.heap.size w w4)
    (hw : w5 = (w4.setCell ⟨oa, k, none⟩ (.int .u64 (g 0).1)).setCell ⟨oa + 1, k, none⟩ (.int .u32 (g 0).2))
    (hd : DropOk m g g') (Q' : Que w6 qb hb m g') (K : Keep (fun b => b = hb ∨ b = qb) w5 w6)
    (n1 : ba < oa) (n2 : br < oa) (n3 : qb < oa) (n4 : hb < oa) (n5 : ba < qb) (n6 : ba < hb) (n7 : br < qb) (n8 : br < hb) (n9 : w.heap.size ≤ oa) (n10 : w.heap.size ≤ qb) (n11 : w.heap.size ≤ hb) :
    Drain n (k + 1) m f g' (upd o k (g 0)) ∧ Que w6 qb hb m g' ∧ Row w6 oa n (fun i => .int .u64 (upd o k (g 0) i).1) ∧ Row w6 (oa + 1) n (fun i => .int .u32 (upd o k (g 0) i).2) ∧
      Row w6 ba n (fun i => .int .u64 (A i)) ∧ Row w6 br n (fun i => .int .u32 (R i)) ∧ Below w.heap.size w w6 := by
  have B5 : Below w.heap.size w w5 := by rw [hw]; exact (B.setCell n9 _).setCell (show w.heap.size ≤ oa + 1 by omega) _
  refine ⟨D.step hd, Q', ?_, ?_, ?_, ?_, B5.trans (K.to_below B5.size (fun j hj e => by omega))⟩
  · refine Row.keep ?_ K (by omega)
    rw [hw]
    exact ((R1.set k _).congr (fun i _ => upd_fst o k (g 0) i)).setOther (show oa ≠ oa + 1 by omega) _
  · refine Row.keep ?_ K (by omega)
    rw [hw]
    exact ((R2.setOther (show oa + 1 ≠ oa by omega) _).set k _).congr (fun i _ => upd_snd o k (g 0) i)
  · refine Row.keep ?_ K (by omega)
    rw [hw]
    exact (R3.setOther (show ba ≠ oa by omega) _).setOther (show ba ≠ oa + 1 by omega) _
  · refine Row.keep ?_ K (by omega)
    rw [hw]
    exact (R4.setOther (show br ≠ oa by omega) _).setOther (show br ≠ oa + 1 by omega) _

set_option maxHeartbeats 4000000 in
theorem drop_core (a0 a1 : Option Addr) (n cap0 cap1 : Nat) (A R : Nat → Int) (w : World) (hA : Src w a0 n (fun i => .int .u64 (A i))) (hR : Src w a1 n (fun i => .int .u32 (R i))) (hn : n ≤ 1024) (h0 : 0 < n) :
    Calls Try.prog 6 #[.slice a0 n cap0, .slice a1 n cap1] w fun e w' => e = .returned (.bool true) ∧ Below w.heap.size w w' := by
  have hd : decide (n + n ≤ 1048576) = true := decide_eq_true (by omega)
  go_enter Try.func6, Try.ntmps6
  go_wp2_with (go_at_call 37; refine (bytes37 _ _ _ _ _ _ _ (by unfold maxLen; omega) (by unfold maxLen; omega)).mono ?_; rintro e w' ⟨rfl, rfl⟩)
  clear hd
  go_wp2_with fail
  refine (copy38 _ _ _ _ _ hA (by omega)).mono ?_
  rintro e w1 ⟨a', rfl, ho, -, hB1⟩
  obtain ⟨ba, rfl, hba, hRa⟩ := ho.pos h0
  have hR1 := hR.below hB1
  clear ho hA hR
  go_wp2_with fail
  refine (copy39 _ _ _ _ _ hR1 (by omega)).mono ?_
  rintro e w2 ⟨a', rfl, ho, -, hB2⟩
  obtain ⟨br, rfl, hbr, hRr⟩ := ho.pos h0
  have hRa2 := hRa.below hB2
  have hB12 := hB1.trans (hB2.mono hB1.size)
  clear ho hR1 hRa
  go_wp2_with fail
  refine (build_any _ _ _ _ _ _ _ _ hRa2.src hRr.src (by omega)).mono ?_
  rintro e w3 ⟨qb, rfl, hb, g, hG, hQ, hqb, hhb, hB3⟩
  have hRa3 := hRa2.below hB3
  have hRr3 := hRr.below hB3
  have hB13 := hB12.trans (hB3.mono hB12.size)
  clear hB1 hB2 hB12
  have hmk1 := make_u64 n (by omega)
  have hmk2 := make_u32 n (by omega)
  go_wp2
  rw [show decide ((1024 : Int) < (n : Int)) = false from by simp; omega]
  obtain ⟨W, hW⟩ : ∃ W, W = (w3.alloc (Obj.cells (madeCells #[Value.int IntKind.u64 0] n) 36)).alloc (Obj.cells (madeCells #[Value.int IntKind.u32 0] n) 38) := ⟨_, rfl⟩
  rw [← hW]
  obtain ⟨oa, hoa⟩ : ∃ oa, oa = w3.heap.size := ⟨_, rfl⟩
  rw [← hoa]
  have B3 : Below w3.heap.size w3 W := by rw [hW]; exact ((Below.refl _ _).alloc (Nat.le_refl _) _).alloc (by simp) _
  have R1 : Row W oa n (fun _ => .int .u64 0) := by rw [hW, hoa]; exact (Row.made w3 _ n _).alloc _
  have R2 : Row W (oa + 1) n (fun _ => .int .u32 0) := by
    rw [hW, hoa]
    have := Row.made (w3.alloc (Obj.cells (madeCells #[Value.int IntKind.u64 0] n) 36)) (.int .u32 0) n 38
    simpa using this
  have R3 := hRa3.below B3
  have R4 := hRr3.below B3
  have Q3 := hQ.below B3
  have BW := hB13.trans (B3.mono hB13.size)
  have n1 : ba < oa := by rw [hoa]; exact hRa3.lt
  have n2 : br < oa := by rw [hoa]; exact hRr3.lt
  have n3 : qb < oa := by rw [hoa]; exact hQ.lt
  have n4 : hb < oa := by rw [hoa]; exact hQ.heap.lt
  have n5 : ba < qb := by have := hRa2.lt; omega
  have n6 : ba < hb := by have := hRa2.lt; omega
  have n7 : br < qb := by have := hRr.lt; omega
  have n8 : br < hb := by have := hRr.lt; omega
  have n9 := hB13.size
  rw [← hoa] at n9
  have n10 : w'.heap.size ≤ qb := by have := hB13.size; have := hRa2.lt; omega
  have n11 : w'.heap.size ≤ hb := by have := hRa2.lt; omega
  have hG0 := Drain.start (fun _ => (0, 0)) hG
  clear hmk1 hmk2 hW hoa B3 hRa2 hRa3 hRr hRr3 hQ hB3 hB13 hG hqb hhb hba hbr
  go_loopw [9] (fun v wr => ∃ (k m : Nat) (g o : Nat → Int × Int), v = .int .i64 k ∧ Drain n k m (fun i => (A i, R i)) g o ∧ Que wr qb hb m g ∧ Row wr oa n (fun i => .int .u64 (o i).1) ∧ Row wr (oa + 1) n (fun i => .int .u32 (o i).2) ∧
      Row wr ba n (fun i => .int .u64 (A i)) ∧ Row wr br n (fun i => .int .u32 (R i)) ∧ Below w'.heap.size w' wr) (fun v _ => n - (intOf v).toNat)
  case atStart => exact ⟨0, n, g, fun _ => (0, 0), rfl, hG0, Q3, R1, R2, R3, R4, BW⟩
  case round =>
    clear R1 R2 R3 R4 Q3 BW hG0
    obtain ⟨k, m, g, o, rfl, D, Q, R1, R2, R3, R4, B⟩ := hrel
    have k1 : k + m ≤ n := by have := D.eq; omega
    have k2 : n ≤ k + m := by have := D.eq; omega
    by_cases hlt : k < n
    · obtain ⟨m, rfl⟩ : ∃ m', m = m' + 1 := ⟨m - 1, by omega⟩
      go_wp2_with fail
      refine (zzLen_any Q).mono ?_
      rintro e w4 ⟨rfl, rfl⟩
      go_wp2_with fail
      refine (entry_zero Q (by omega) (by omega)).mono ?_
      rintro e w5 ⟨rfl, hb5⟩
      have Q5 := Q.below hb5
      have R15 := R1.below hb5
      have R25 := R2.below hb5
      have R35 := R3.below hb5
      have R45 := R4.below hb5
      have B5 := B.trans (hb5.mono B.size)
      clear Q R1 R2 R3 R4 B hb5
      have x1 := R15.cell (i := k) hlt
      have x2 := R25.cell (i := k) hlt
      have x3 := R15.frozen k
      have x4 := R25.frozen k
      go_wp2_with fail
      have Q6 := (Q5.setOther (a := ⟨oa, k, none⟩) (show qb ≠ oa by omega) (show hb ≠ oa by omega) (.int .u64 (g 0).1)).setOther (a := ⟨oa + 1, k, none⟩) (show qb ≠ oa + 1 by omega) (show hb ≠ oa + 1 by omega) (.int .u32 (g 0).2)
      refine (zzDropFirst_any Q6 (by omega) D.heap).mono ?_
      rintro e w6 ⟨rfl, g', hd, Q', K⟩
      have HR : Hid _ := drop_round D hlt Q5 R15 R25 R35 R45 B5 rfl hd Q' K n1 n2 n3 n4 n5 n6 n7 n8 n9 n10 n11
      clear D Q5 R15 R25 R35 R45 B5 Q6 hd Q' K x1 x2 x3 x4
      go_wp2
      go_roundw
      case rel => exact ⟨k + 1, m, g', upd o k (g 0), by go_num, HR.out⟩
      case measure => simp [intOf]; omega
    · go_wp2_with fail
      refine (zzLen_any Q).mono ?_
      rintro e w4 ⟨rfl, rfl⟩
      have hm0 : m < 1 := by omega
      have hkn : Hid (k = n) := by show k = n; omega
      have HS : Hid (∀ j, 1 ≤ j → j < n → bef (o j) (o (j - 1)) = false) := by
        intro j j1 j2
        exact D.sorted j j1 (by omega)
      have HC : Hid (∀ x, cnt o n x = cnt (fun i => (A i, R i)) n x) := by
        intro x
        have := D.sum x
        rw [show k = n by omega, show m = 0 by omega] at this
        simpa [cnt] using this
      clear D Q
      go_wp2
      rw [show ((m : Int) != 0) = false from by simp; omega]
      go_loopw [12] (fun v wr => ∃ j : Nat, 1 ≤ j ∧ j ≤ n ∧ v = .int .i64 j ∧ ∃ d, wr = w4.drewN d) (fun v _ => n - (intOf v).toNat)
      case atStart => exact ⟨1, by omega, by omega, rfl, 0, rfl⟩
      case round =>
        obtain ⟨j, hj1, hjn, rfl, d, rfl⟩ := hrel
        by_cases hjlt : j < n
        · have y1 := R1.cell (i := j) hjlt
          have y2 := R2.cell (i := j) hjlt
          have y3 := R1.cell (i := j - 1) (by omega)
          have y4 := R2.cell (i := j - 1) (by omega)
          have hbe : bef (o j) (o (j - 1)) = false := HS.out j hj1 hjlt
          have q1 : (1 : Int) ≤ (j : Int) := by omega
          have q2 : (j : Int) - 1 < (n : Int) := by omega
          have q3 : (j : Int) < (n : Int) := by omega
          have q4 : ((j : Int) - 1).toNat = j - 1 := by omega
          clear R1 R2 R3 R4 B
          go_wp2
          go_quiet (first | (go_at_call 44; exact (taken44 _ _ _).mono (fun _ _ h => ⟨h.1, _, h.2⟩)))
          rw [hbe]
          go_wp2
          go_roundw
          case rel => exact ⟨j + 1, by omega, by omega, by go_num, _, rfl⟩
          case measure => simp [intOf]; omega
        · have hmk := make_bool n (by omega)
          go_wp2
          obtain ⟨W4, hW4⟩ : ∃ W4, W4 = (w4.drewN d).alloc (Obj.cells (madeCells #[Value.bool false] n) 4) := ⟨_, rfl⟩
          rw [← hW4]
          obtain ⟨ub, hub⟩ : ∃ ub, ub = w4.heap.size := ⟨_, rfl⟩
          rw [← hub]
          have B4 : Below w4.heap.size w4 W4 := by rw [hW4]; exact (Below.refl w4.heap.size w4).trans ⟨rfl, rfl, rfl, by simp, fun k hk => Below.heap_alloc _ _ _ hk⟩
          have R5 : Row W4 ub n (fun _ => .bool false) := by rw [hW4, hub]; exact Row.made (w4.drewN d) _ n _
          have u1 : ba < ub := by rw [hub]; exact R3.lt
          have u2 : br < ub := by rw [hub]; exact R4.lt
          have u3 : oa < ub := by rw [hub]; exact R1.lt
          have u4 : oa + 1 < ub := by rw [hub]; exact R2.lt
          have u5 : w'.heap.size ≤ ub := by rw [hub]; exact B.size
          have T1 := R1.below B4
          have T2 := R2.below B4
          have T3 := R3.below B4
          have T4 := R4.below B4
          have BW := B.trans (B4.mono B.size)
          have M0 := Marks.start HC.out
          clear hmk hW4 hub B4 R1 R2 R3 R4 B
          go_loopw [14] (fun v wr => ∃ (i : Nat) (U : Nat → Bool), i ≤ n ∧ v = .int .i64 i ∧ Marks n i (fun i => (A i, R i)) o U ∧ Row wr ub n (fun i => .bool (U i)) ∧ Keep (fun b => b = ub) W4 wr ∧ Below w'.heap.size w' wr) (fun v _ => n - (intOf v).toNat)
          case atStart => exact ⟨0, _, by omega, rfl, M0, R5, Keep.refl _ _, BW⟩
          case round =>
            clear R5 BW M0
            obtain ⟨i, U, hin, rfl, M, RU, KW, B⟩ := hrel
            by_cases hilt : i < n
            · have S1 := T1.keep KW (by omega)
              have S2 := T2.keep KW (by omega)
              have S3 := T3.keep KW (by omega)
              have S4 := T4.keep KW (by omega)
              have y1 := S1.cell (i := i) hilt
              have y2 := S2.cell (i := i) hilt
              have z1 : (i : Int) < (n : Int) := by omega
              have HM := M.there hilt
              clear S1 S2 T1 T2 T3 T4
              go_wp2
              go_region_with (go_at_call 45; refine (find45 ba br ub n n n n (fun i => (A i, R i)) U (o i) _ ?_ ?_ ?_ (by omega) HM).mono ?_; exact S3; exact S4; exact RU; rintro e w7 ⟨⟨j, rfl, hj, hU, hf⟩, rfl⟩)
              all_goals
                have v1 := RU.cell (i := j) hj
                have v2 := RU.frozen j
                have HR : Hid (Marks n (i + 1) (fun i => (A i, R i)) o (bupd U j) ∧ Row (wr.setCell ⟨ub, j, none⟩ (.bool true)).drew ub n (fun i => .bool (bupd U j i)) ∧ Keep (fun b => b = ub) W4 (wr.setCell ⟨ub, j, none⟩ (.bool true)).drew ∧
                    Below w'.heap.size w' (wr.setCell ⟨ub, j, none⟩ (.bool true)).drew) :=
                  ⟨M.step hj hU hf, ((RU.set j _).congr (fun i _ => upd_bool U j i)).drew, (KW.setCell (.inl rfl) _).drew, (B.setCell u5 _).drew⟩
                clear M RU KW B hU hf S3 S4 y1 y2 HM
                go_wp2
                go_roundw
                case rel => exact ⟨i + 1, bupd U j, by omega, by go_num, HR.out⟩
                case measure => simp [intOf]; omega
            · go_wp2
              go_ret
              exact ⟨rfl, B⟩

set_option maxHeartbeats 2000000 in
theorem drop_zero_len (a0 a1 : Option Addr) (n cap0 cap1 : Nat) (w : World) (hA : Src w a0 n (fun i => .int .u64 0)) (hR : Src w a1 n (fun i => .int .u32 0)) (hn : n < 1) :
    Calls Try.prog 6 #[.slice a0 n cap0, .slice a1 n cap1] w fun e w' => e = .returned (.bool true) ∧ Below w.heap.size w w' := by
  have hd : decide (n + n ≤ 1048576) = true := decide_eq_true (by omega)
  go_enter Try.func6, Try.ntmps6
  go_wp2_with (go_at_call 37; refine (bytes37 _ _ _ _ _ _ _ (by unfold maxLen; omega) (by unfold maxLen; omega)).mono ?_; rintro e w' ⟨rfl, rfl⟩)
  clear hd
  go_wp2_with fail
  refine (copy38 _ _ _ (fun _ => 0) _ hA (by omega)).mono ?_
  rintro e w1 ⟨b0, rfl, ho, -, hB1⟩
  have hR1 := hR.below hB1
  have hA1 := ho.src
  clear ho hA hR
  go_wp2_with fail
  refine (copy39 _ _ _ (fun _ => 0) _ hR1 (by omega)).mono ?_
  rintro e w2 ⟨b1, rfl, ho, -, hB2⟩
  have hA2 := hA1.below hB2
  have hR2 := ho.src
  have hB12 := hB1.trans (hB2.mono hB1.size)
  clear ho hR1 hA1
  go_wp2_with fail
  refine (build_any _ _ _ _ _ (fun _ => 0) (fun _ => 0) _ hA2 hR2 (by omega)).mono ?_
  rintro e w3 ⟨qb, rfl, hb, g, hG, hQ, hqb, hhb, hB3⟩
  have hB13 := hB12.trans (hB3.mono hB12.size)
  clear hB1 hB2 hB12 hA2 hR2 hB3 hG
  have hmk1 := make_u64 n (by omega)
  have hmk2 := make_u32 n (by omega)
  have hmk3 := make_bool n (by omega)
  go_wp2
  obtain ⟨W, hW⟩ : ∃ W, W = (w3.alloc (Obj.cells (madeCells #[Value.int IntKind.u64 0] n) 36)).alloc (Obj.cells (madeCells #[Value.int IntKind.u32 0] n) 38) := ⟨_, rfl⟩
  have QW : Que W qb hb n g := by rw [hW]; exact hQ.below (((Below.refl _ _).alloc (Nat.le_refl _) _).alloc (by simp) _)
  have BW : Below w'.heap.size w' W := by rw [hW]; exact (hB13.alloc hB13.size _).alloc (by have := hB13.size; simp; omega) _
  rw [← hW]
  clear hW hB13 hQ
  go_loopw [9] (fun v wr => v = .int .i64 0 ∧ wr = W) (fun _ _ => 0)
  case atStart => exact ⟨rfl, rfl⟩
  case round =>
    obtain ⟨rfl, rfl⟩ := hrel
    go_wp2_with fail
    refine (zzLen_any QW).mono ?_
    rintro e w4 ⟨rfl, rfl⟩
    go_wp2
    go_loopw [12] (fun v wr => v = .int .i64 1 ∧ wr = w4) (fun _ _ => 0)
    case atStart => exact ⟨rfl, rfl⟩
    case round =>
      obtain ⟨rfl, rfl⟩ := hrel
      go_wp2
      go_loopw [14] (fun v wr => v = .int .i64 0 ∧ Below w'.heap.size w' wr) (fun _ _ => 0)
      case atStart => exact ⟨rfl, BW.alloc BW.size _⟩
      case round =>
        obtain ⟨rfl, B⟩ := hrel
        go_wp2
        go_ret
        exact ⟨rfl, B⟩

theorem drop_early (a0 a1 : Option Addr) (l0 l1 cap0 cap1 : Nat) (w : World) (h0 : l0 ≤ maxLen) (h1 : l1 ≤ maxLen) (h : ¬ (l0 ≤ 1024 ∧ l1 ≤ 1024 ∧ l0 = l1)) :
    Calls Try.prog 6 #[.slice a0 l0 cap0, .slice a1 l1 cap1] w fun e w' => e = .returned (.bool true) ∧ Below w.heap.size w w' := by
  by_cases hs : l0 + l1 ≤ 1048576
  · have hd : decide (l0 + l1 ≤ 1048576) = true := decide_eq_true hs
    by_cases x0 : l0 ≤ 1024
    · by_cases x1 : l1 ≤ 1024
      · have hne : ((l0 : Int) != (l1 : Int)) = true := by simp; omega
        go_enter Try.func6, Try.ntmps6
        go_wp2_with (go_at_call 37; refine (bytes37 _ _ _ _ _ _ _ h0 h1).mono ?_; rintro e w' ⟨rfl, rfl⟩)
        go_ret
        exact ⟨rfl, Below.refl _ _⟩
      · go_enter Try.func6, Try.ntmps6
        go_wp2_with (go_at_call 37; refine (bytes37 _ _ _ _ _ _ _ h0 h1).mono ?_; rintro e w' ⟨rfl, rfl⟩)
        go_ret
        exact ⟨rfl, Below.refl _ _⟩
    · go_enter Try.func6, Try.ntmps6
      go_wp2_with (go_at_call 37; refine (bytes37 _ _ _ _ _ _ _ h0 h1).mono ?_; rintro e w' ⟨rfl, rfl⟩)
      go_ret
      exact ⟨rfl, Below.refl _ _⟩
  · have hd : decide (l0 + l1 ≤ 1048576) = false := decide_eq_false hs
    go_enter Try.func6, Try.ntmps6
    go_wp2_with (go_at_call 37; refine (bytes37 _ _ _ _ _ _ _ h0 h1).mono ?_; rintro e w' ⟨rfl, rfl⟩)
    go_ret
    exact ⟨rfl, Below.refl _ _⟩

/-- From what the frame tells of an argument to what the walks ask. -/
theorem src_arg {k : IntKind} {w : World} {a : Option Addr} {len cap : Nat} {zs : List Int}
    (h : (a = none ∧ len = 0 ∧ cap = 0 ∧ zs = []) ∨ ∃ x, a = some x ∧ len ≤ cap ∧ cap ≤ maxLen ∧ zs.length = cap ∧ (∀ i, i < zs.length → w.cell? (x.add i) = some (.int k (zs.getD i 0))) ∧ ∀ n ∈ zs, (Lit.int k n).wf = true) :
    Src w a len (fun i => .int k (zs.getD i 0)) ∧ len ≤ maxLen := by
  rcases h with ⟨rfl, rfl, rfl, rfl⟩ | ⟨x, rfl, h1, h2, h3, h4, h5⟩
  · exact ⟨⟨fun _ => rfl, fun h => absurd h (by omega)⟩, by unfold maxLen; omega⟩
  · refine ⟨⟨fun h => (by cases h), fun hn => ?_⟩, by omega⟩
    obtain ⟨b, off, spot⟩ := x
    have hspot : spot = none := by simpa [Addr.add] using World.cell?_spot (h4 0 (by omega))
    subst hspot
    have e0 := h4 0 (by omega)
    refine ⟨b, off, rfl, lt_of_cell (a := ⟨b, off, none⟩) (by simpa [Addr.add] using e0), fun i hi => ?_⟩
    have := h4 i (by omega)
    rw [Go.WideShapes.add_plain] at this
    exact this

theorem Src.congr {w : World} {a : Option Addr} {n : Nat} {F G : Nat → Value} (h : Src w a n F) (e : ∀ i, i < n → F i = G i) : Src w a n G :=
  ⟨h.1, fun hn => by
    obtain ⟨b, o, h1, h2, h3⟩ := h.2 hn
    exact ⟨b, o, h1, h2, fun i hi => by rw [← e i hi]; exact h3 i hi⟩⟩

theorem drop_all (a0 a1 : Option Addr) (l0 l1 cap0 cap1 : Nat) (z0 z1 : List Int) (w : World) (h0 : Src w a0 l0 (fun i => .int .u64 (z0.getD i 0)) ∧ l0 ≤ maxLen) (h1 : Src w a1 l1 (fun i => .int .u32 (z1.getD i 0)) ∧ l1 ≤ maxLen) :
    Calls Try.prog 6 #[.slice a0 l0 cap0, .slice a1 l1 cap1] w fun e w' => e = .returned (.bool true) ∧ Below w.heap.size w w' := by
  by_cases h : l0 ≤ 1024 ∧ l1 ≤ 1024 ∧ l0 = l1
  · obtain ⟨x0, x1, rfl⟩ := h
    by_cases hn : l0 < 1
    · exact drop_zero_len a0 a1 l0 cap0 cap1 w (h0.1.congr (fun i hi => absurd hi (by omega))) (h1.1.congr (fun i hi => absurd hi (by omega))) hn
    · exact drop_core a0 a1 l0 cap0 cap1 _ _ w h0.1 h1.1 x0 (by omega)
  · exact drop_early a0 a1 l0 l1 cap0 cap1 w h0.2 h1.2 h
end Go.Proofs.Qxb6003691a
