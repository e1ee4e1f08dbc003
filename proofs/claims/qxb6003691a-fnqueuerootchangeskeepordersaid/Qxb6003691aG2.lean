import Derived.Test.Qxb6003691aG1
namespace Go.Proofs.Qxb6003691a
open Go.RowKit
set_option linter.unusedVariables false

theorem allowance_zero {w : World} {qb hb n : Nat} {f : Nat → Int × Int} (h : Que w qb hb n f) (hi : 0 < n) (hn : n ≤ 4096) {x : Int × Int} (hx : f 0 = x) :
    Calls Try.prog 18 #[.pointer (some ⟨qb, 0, none⟩), .int .i64 0] w fun e w' => e = .returned (.int .u64 x.1) ∧ w' = w := by
  rw [← hx]; exact allowance_any h (i := 0) hi hn
theorem rank_zero {w : World} {qb hb n : Nat} {f : Nat → Int × Int} (h : Que w qb hb n f) (hi : 0 < n) (hn : n ≤ 4096) {x : Int × Int} (hx : f 0 = x) :
    Calls Try.prog 19 #[.pointer (some ⟨qb, 0, none⟩), .int .i64 0] w fun e w' => e = .returned (.int .u32 x.2) ∧ w' = w := by
  rw [← hx]; exact rank_any h (i := 0) hi hn

theorem Que.drewN {w : World} {qb hb n : Nat} {f : Nat → Int × Int} (h : Que w qb hb n f) (q : Nat) : Que (w.drewN q) qb hb n f := h

theorem Keep.drewN {S : Nat → Prop} {w w' : World} (h : Keep S w w') (q : Nat) : Keep S w (w'.drewN q) := ⟨h.os, h.tape, h.output, h.size, h.block⟩

/-- Two rows hold the entries f. -/
def Two (w : World) (ba br n : Nat) (f : Nat → Int × Int) : Prop := Row w ba n (fun i => .int .u64 (f i).1) ∧ Row w br n (fun i => .int .u32 (f i).2)
theorem Two.keep {w w' : World} {ba br n : Nat} {f : Nat → Int × Int} {S : Nat → Prop} (h : Two w ba br n f) (k : Keep S w w') (h1 : ¬ S ba) (h2 : ¬ S br) : Two w' ba br n f := ⟨h.1.keep k h1, h.2.keep k h2⟩
theorem Two.below {w w' : World} {ba br n : Nat} {f : Nat → Int × Int} (h : Two w ba br n f) (k : Below w.heap.size w w') : Two w' ba br n f := ⟨h.1.below k, h.2.below k⟩
theorem Two.drewN {w : World} {ba br n : Nat} {f : Nat → Int × Int} (h : Two w ba br n f) (q : Nat) : Two (w.drewN q) ba br n f := h
theorem Two.set {w : World} {ba br n : Nat} {f : Nat → Int × Int} (h : Two w ba br n f) (hne : ba ≠ br) (i : Nat) (x : Int × Int) :
    Two ((w.setCell ⟨ba, i, none⟩ (.int .u64 x.1)).setCell ⟨br, i, none⟩ (.int .u32 x.2)) ba br n (upd f i x) :=
  ⟨((h.1.set i _).congr (fun j _ => upd_fst f i x j)).setOther hne _, ((h.2.setOther (fun e => hne e.symm) _).set i _).congr (fun j _ => upd_snd f i x j)⟩

theorem keep4 {w wr : World} {ba br : Nat} (h : Keep (fun b => b = ba ∨ b = br) w wr) (q i j : Nat) (v1 v2 v3 v4 : Value) :
    Keep (fun b => b = ba ∨ b = br) w (((((wr.drewN q).setCell ⟨ba, i, none⟩ v1).setCell ⟨br, i, none⟩ v2).setCell ⟨ba, j, none⟩ v3).setCell ⟨br, j, none⟩ v4) := by
  have h0 : Keep (fun b => b = ba ∨ b = br) w (wr.drewN q) := ⟨h.os, h.tape, h.output, h.size, h.block⟩
  exact (((h0.setCell (.inl (.inl rfl)) _).setCell (.inl (.inr rfl)) _).setCell (.inl (.inl rfl)) _).setCell (.inl (.inr rfl)) _

set_option maxHeartbeats 2000000 in
theorem sort_any (ba br n c1 c2 : Nat) (f : Nat → Int × Int) (w : World) (h : Two w ba br n f) (hne : ba ≠ br) (hn : n ≤ 4096) :
    Calls Try.prog 13 #[.slice (some ⟨ba, 0, none⟩) n c1, .slice (some ⟨br, 0, none⟩) n c2] w fun e w' => e = .returned (.tuple #[]) ∧ ∃ g, Sorted n f g ∧ Two w' ba br n g ∧ Keep (fun b => b = ba ∨ b = br) w w' := by
  go_enter Try.func13, Try.ntmps13
  go_wp2
  go_loopw [4] (fun v wr => ∃ (i : Nat) (g : Nat → Int × Int), 1 ≤ i ∧ v = .int .i64 i ∧ (∀ t, 1 ≤ t → t < i → t < n → bef (g t) (g (t - 1)) = false) ∧ (∀ x, cnt g n x = cnt f n x) ∧ Two wr ba br n g ∧ Keep (fun b => b = ba ∨ b = br) w wr) (fun v _ => n - (intOf v).toNat)
  case atStart => exact ⟨1, f, by omega, rfl, fun t t1 t2 => absurd t2 (by omega), fun _ => rfl, h, Keep.refl _ _⟩
  case round =>
    clear h
    obtain ⟨i, g, hi, rfl, hs, hc, hT, hK⟩ := hrel
    by_cases hlt : i < n
    · have hins : Ins n i i f g := Ins.start (fun j j1 j2 => hs j j1 j2 (by omega)) hc
      clear hs hc
      go_wp2
      go_loopw [5] (fun v wr => ∃ (j : Nat) (g : Nat → Int × Int), v = .int .i64 j ∧ Ins n i j f g ∧ Two wr ba br n g ∧ Keep (fun b => b = ba ∨ b = br) w wr) (fun v _ => (intOf v).toNat)
      case atStart => exact ⟨i, g, rfl, hins, hT, hK⟩
      case round =>
        clear hins hT hK
        obtain ⟨j, g, rfl, hI, hT, hK⟩ := hrel
        have hji := hI.le
        by_cases hj : 0 < j
        · have y1 := hT.1.cell (i := j) (by omega)
          have y2 := hT.2.cell (i := j) (by omega)
          have y3 := hT.1.cell (i := j - 1) (by omega)
          have y4 := hT.2.cell (i := j - 1) (by omega)
          have q1 : (1 : Int) ≤ (j : Int) := by omega
          have q2 : (j : Int) - 1 < (n : Int) := by omega
          have q3 : (j : Int) < (n : Int) := by omega
          have q4 : ((j : Int) - 1).toNat = j - 1 := by omega
          cases hbe : bef (g j) (g (j - 1))
          · have HD : Hid (∀ t, 1 ≤ t → t < i + 1 → bef (g t) (g (t - 1)) = false) := hI.done (.inr hbe)
            have HC : Hid (∀ x, cnt g n x = cnt f n x) := hI.same
            have HT : Hid (Two wr ba br n g ∧ Keep (fun b => b = ba ∨ b = br) w wr) := ⟨hT, hK⟩
            clear hI hT hK
            go_wp2
            go_quiet (first | (go_at_call 20; exact Calls.quiet_of_same (takeFirst20 _ _ _)))
            rw [hbe]
            go_wp2
            go_roundw
            case rel => exact ⟨i + 1, g, by omega, by go_num, fun t t1 t2 _ => HD.out t t1 t2, HC.out, HT.out.1.drewN _, HT.out.2.trans ⟨rfl, rfl, rfl, Nat.le_refl _, fun _ _ _ => rfl⟩⟩
            case measure => simp [intOf]; omega
          · have HI : Hid (Ins n i (j - 1) f (upd (upd g j (g (j - 1))) (j - 1) (g j))) := hI.step hj hlt hbe
            have f1 := hT.1.frozen j
            have f2 := hT.2.frozen j
            have f3 := hT.1.frozen (j - 1)
            have f4 := hT.2.frozen (j - 1)
            clear hI
            go_wp2
            go_quiet (first | (go_at_call 20; exact Calls.quiet_of_same (takeFirst20 _ _ _)))
            rw [hbe]
            have HR : Hid _ := And.intro (((hT.drewN nq).set hne j (g (j - 1))).set hne (j - 1) (g j)) (keep4 (ba := ba) (br := br) hK nq j (j - 1) (.int .u64 (g (j - 1)).1) (.int .u32 (g (j - 1)).2) (.int .u64 (g j).1) (.int .u32 (g j).2))
            clear hT hK
            go_wp2
            go_roundw
            case rel => exact ⟨j - 1, _, by go_num, HI.out, HR.out.1, HR.out.2⟩
            case measure => simp [intOf]; omega
        · have hd : decide ((0 : Int) < (j : Int)) = false := by simp; omega
          have HD : Hid (∀ t, 1 ≤ t → t < i + 1 → bef (g t) (g (t - 1)) = false) := hI.done (.inl (by omega))
          have HC : Hid (∀ x, cnt g n x = cnt f n x) := hI.same
          have HT : Hid (Two wr ba br n g ∧ Keep (fun b => b = ba ∨ b = br) w wr) := ⟨hT, hK⟩
          clear hI hT hK
          go_wp2
          go_quiet (fail)
          go_wp2
          go_roundw
          case rel => exact ⟨i + 1, g, by omega, by go_num, fun t t1 t2 _ => HD.out t t1 t2, HC.out, HT.out.1.drewN _, HT.out.2.trans ⟨rfl, rfl, rfl, Nat.le_refl _, fun _ _ _ => rfl⟩⟩
          case measure => simp [intOf]; omega
    · go_wp2
      go_end0
      exact ⟨rfl, g, ⟨fun t t1 t2 => hs t t1 (by omega) t2, hc⟩, hT, hK⟩

set_option maxHeartbeats 2000000 in
theorem drains_any {w : World} {qb hb ba br n c1 c2 : Nat} {q g : Nat → Int × Int} (hQ : Que w qb hb n q) (hT : Two w ba br n g) (hn : n ≤ 4096) (hL : Left n 0 n g q) (hS : ∀ j, 1 ≤ j → j < n → bef (g j) (g (j - 1)) = false)
    (d1 : ba ≠ qb) (d2 : ba ≠ hb) (d3 : br ≠ qb) (d4 : br ≠ hb) :
    Calls Try.prog 14 #[.pointer (some ⟨qb, 0, none⟩), .slice (some ⟨ba, 0, none⟩) n c1, .slice (some ⟨br, 0, none⟩) n c2] w fun e w' => e = .returned (.bool true) ∧ Keep (fun b => b = hb ∨ b = qb) w w' := by
  have HS : Hid (∀ j, 1 ≤ j → j < n → bef (g j) (g (j - 1)) = false) := hS
  clear hS
  go_enter Try.func14, Try.ntmps14
  go_wp2
  go_loopw [7] (fun v wr => ∃ (k m : Nat) (p : Nat → Int × Int), v = .int .i64 k ∧ Left n k m g p ∧ Que wr qb hb m p ∧ Keep (fun b => b = hb ∨ b = qb) w wr) (fun v _ => n - (intOf v).toNat)
  case atStart => exact ⟨0, n, q, rfl, hL, hQ, Keep.refl _ _⟩
  case round =>
    clear hL hQ
    obtain ⟨k, m, p, rfl, hL, hQ, hK⟩ := hrel
    have k1 : k + m ≤ n := by have := hL.eq; omega
    have k2 : n ≤ k + m := by have := hL.eq; omega
    by_cases hlt : k < n
    · obtain ⟨m, rfl⟩ : ∃ m', m = m' + 1 := ⟨m - 1, by omega⟩
      have HE : Hid (p 0 = g k) := hL.first HS.out (by omega)
      have T := hT.keep hK (by omega) (by omega)
      have y1 := T.1.cell hlt
      have y2 := T.2.cell hlt
      have z1 : (k : Int) < (n : Int) := by omega
      have g1 : ((g k).1 != (g k).1) = false := by simp
      have g2 : ((g k).2 != (g k).2) = false := by simp
      have HL : Hid (Left n k (m + 1) g p) := hL
      clear T hL
      go_wp2_with fail
      refine (queueLen_any hQ).mono ?_
      rintro e w2 ⟨rfl, rfl⟩
      go_wp2_with fail
      go_quiet (first
        | (go_at_call 18; exact Calls.quiet_of_same (allowance_zero (f := p) (Que.drewN hQ _) (by omega) (by omega) HE.out))
        | (go_at_call 19; exact Calls.quiet_of_same (rank_zero (f := p) (Que.drewN hQ _) (by omega) (by omega) HE.out)))
      go_wp2_with fail
      refine (queueDropFirst_any (Que.drewN hQ _) (by omega) HL.out.heap).mono ?_
      rintro e w3 ⟨rfl, p', hd, hQ', hK2⟩
      have HR : Hid _ := And.intro (HL.out.step HS.out hd) (And.intro hQ' ((hK.drewN nq).trans hK2))
      clear hQ hK hd hQ' hK2 y1 y2
      go_wp2
      go_roundw
      case rel => exact ⟨k + 1, m, p', by go_num, HR.out⟩
      case measure => simp [intOf]; omega
    · go_wp2_with fail
      refine (queueLen_any hQ).mono ?_
      rintro e w2 ⟨rfl, rfl⟩
      have hm0 : m < 1 := by omega
      go_wp2
      go_ret
      exact ⟨by congr 2; simp; omega, hK⟩

/-! The empty lists. -/
theorem sort_zero (a1 a2 : Option Addr) (n c1 c2 : Nat) (w : World) (hn : n < 1) :
    Calls Try.prog 13 #[.slice a1 n c1, .slice a2 n c2] w fun e w' => e = .returned (.tuple #[]) ∧ w' = w := by
  go_enter Try.func13, Try.ntmps13
  go_wp2
  go_loop [4] (fun v => v = .int .i64 1) (fun _ => 0)
  case atStart => rfl
  case round =>
    obtain rfl := hrel
    go_wp2
    go_end0
    exact ⟨rfl, rfl⟩

theorem drains_zero {w : World} {qb hb n c1 c2 : Nat} {q : Nat → Int × Int} (a1 a2 : Option Addr) (hQ : Que w qb hb n q) (hn : n < 1) :
    Calls Try.prog 14 #[.pointer (some ⟨qb, 0, none⟩), .slice a1 n c1, .slice a2 n c2] w fun e w' => e = .returned (.bool true) ∧ w' = w := by
  go_enter Try.func14, Try.ntmps14
  go_wp2
  go_loop [7] (fun v => v = .int .i64 0) (fun _ => 0)
  case atStart => rfl
  case round =>
    obtain rfl := hrel
    go_wp2_with fail
    refine (queueLen_any hQ).mono ?_
    rintro e w2 ⟨rfl, rfl⟩
    go_wp2
    go_ret
    exact ⟨by congr 2; simp; omega, rfl⟩
end Go.Proofs.Qxb6003691a
