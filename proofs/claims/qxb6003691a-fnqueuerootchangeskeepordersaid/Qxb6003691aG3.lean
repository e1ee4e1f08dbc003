import Derived.Test.Qxb6003691aG2
namespace Go.Proofs.Qxb6003691a
open Go.RowKit
set_option linter.unusedVariables false

/-- Two sorted lists of the same entries are one. -/
theorem sorted_unique {n : Nat} {f1 f2 g1 g2 : Nat → Int × Int} (h1 : Sorted n f1 g1) (h2 : Sorted n f2 g2) (h : ∀ x, cnt f1 n x = cnt f2 n x) : ∀ k, k < n → g1 k = g2 k := by
  intro k
  induction k using Nat.strongRecOn with
  | ind k ih =>
    intro hk
    have hc : ∀ x, cnt g1 k x = cnt g2 k x := fun x => cnt_congr (fun i hi => ih i hi (by omega)) x
    have hn : ∀ x, cnt g1 n x = cnt g2 n x := fun x => by rw [h1.2, h2.2, h]
    apply bef_antisymm
    · have a := cnt_mono (o := g1) (k := k + 1) (n := n) (by omega) (g1 k)
      simp [cnt] at a
      obtain ⟨i, i1, i2, i3⟩ := cnt_between (g := g2) (k := k) (n := n) (x := g1 k) (by rw [← hc, ← hn]; omega)
      rw [← i3]
      exact sorted_le h2.1 i1 i2
    · have a := cnt_mono (o := g2) (k := k + 1) (n := n) (by omega) (g2 k)
      simp [cnt] at a
      obtain ⟨i, i1, i2, i3⟩ := cnt_between (g := g1) (k := k) (n := n) (x := g2 k) (by rw [hc, hn]; omega)
      rw [← i3]
      exact sorted_le h1.1 i1 i2

theorem Two.congr {w : World} {ba br n : Nat} {f g : Nat → Int × Int} (h : Two w ba br n f) (e : ∀ i, i < n → f i = g i) : Two w ba br n g :=
  ⟨h.1.congr (fun i hi => by rw [e i hi]), h.2.congr (fun i hi => by rw [e i hi])⟩
theorem Two.made (w : World) (n : Nat) : Two ((w.alloc (.cells (madeCells #[.int .u64 0] n) 36)).alloc (.cells (madeCells #[.int .u32 0] n) 38)) w.heap.size (w.heap.size + 1) n (fun _ => (0, 0)) := by
  refine ⟨(Row.made w _ n _).alloc _, ?_⟩
  have := Row.made (w.alloc (.cells (madeCells #[.int .u64 0] n) 36)) (.int .u32 0) n 38
  simpa using this
theorem Two.step {w : World} {ba br n : Nat} {f : Nat → Int × Int} {k : Nat} (h : Two w ba br n (PartE f k)) (hne : ba ≠ br) :
    Two ((w.setCell ⟨ba, k, none⟩ (.int .u64 (f k).1)).setCell ⟨br, k, none⟩ (.int .u32 (f k).2)) ba br n (PartE f (k + 1)) :=
  (h.set hne k (f k)).congr (fun i _ => PartE.step f k i)

theorem below_drewN {B : Nat} {a w : World} (h : Below B a w) (d : Nat) : Below B a (w.drewN d) := ⟨h.os, h.tape, h.output, h.size, h.block⟩

set_option maxHeartbeats 2000000 in
theorem same_any {w : World} {qb hb ba br m c1 c2 : Nat} {q f : Nat → Int × Int} (hQ : Que w qb hb m q) (hT : Two w ba br m f) (hm : m ≤ 4096) (hc : ∀ x, cnt q m x = cnt f m x) :
    Calls Try.prog 17 #[.pointer (some ⟨qb, 0, none⟩), .slice (some ⟨ba, 0, none⟩) m c1, .slice (some ⟨br, 0, none⟩) m c2] w fun e w' => e = .returned (.bool true) ∧ Below w.heap.size w w' := by
  have hmk1 := make_u64 m (by omega)
  have hmk2 := make_u32 m (by omega)
  go_enter Try.func17, Try.ntmps17
  go_wp2_with (go_at_call 46; refine (queueLen_any hQ).mono ?_; rintro e w' ⟨rfl, rfl⟩)
  obtain ⟨W, hW⟩ : ∃ W, W = (w'.alloc (.cells (madeCells #[.int .u64 0] m) 36)).alloc (.cells (madeCells #[.int .u32 0] m) 38) := ⟨_, rfl⟩
  rw [← hW]
  obtain ⟨ha, hha⟩ : ∃ ha, ha = w'.heap.size := ⟨_, rfl⟩
  have BW : Below w'.heap.size w' W := by rw [hW]; exact ((Below.refl _ _).alloc (Nat.le_refl _) _).alloc (by simp) _
  have T0 : Two W ha (ha + 1) m (fun _ => (0, 0)) := by rw [hW, hha]; exact Two.made w' m
  have SZ : W.heap.size = ha + 2 := by rw [hW, hha]; simp
  rw [← hha] at BW ⊢
  have HB : Hid (ha = w'.heap.size) := hha
  clear hW hha
  go_loopw [10] (fun v wr => ∃ k : Nat, k ≤ m ∧ v = .int .i64 k ∧ Two wr ha (ha + 1) m (PartE q k) ∧ wr.heap.size = ha + 2 ∧ Below ha w' wr) (fun v _ => m - (intOf v).toNat)
  case atStart => exact ⟨0, by omega, rfl, T0.congr (fun i _ => PartE.zero _ i), SZ, BW⟩
  case round =>
    clear T0 SZ BW
    obtain ⟨k, hk, rfl, hP, hsz, hB⟩ := hrel
    by_cases hlt : k < m
    · have Q1 : Que wr qb hb m q := hQ.below (by rw [← HB.out]; exact hB)
      have y1 := hP.1.cell hlt
      have y2 := hP.2.cell hlt
      have y3 := hP.1.frozen k
      have y4 := hP.2.frozen k
      have l1 := hQ.lt
      have l2 := hQ.heap.lt
      rw [← HB.out] at l1 l2
      go_wp2_with fail
      refine (allowance_any Q1 hlt hm).mono ?_
      rintro e w2 ⟨rfl, rfl⟩
      have Q2 := Q1.setOther (a := ⟨ha, k, none⟩) (show qb ≠ ha by omega) (show hb ≠ ha by omega) (.int .u64 (q k).1)
      have HR : Hid (Two ((w2.setCell ⟨ha, k, none⟩ (.int .u64 (q k).1)).setCell ⟨ha + 1, k, none⟩ (.int .u32 (q k).2)) ha (ha + 1) m (PartE q (k + 1)) ∧ ((w2.setCell ⟨ha, k, none⟩ (.int .u64 (q k).1)).setCell ⟨ha + 1, k, none⟩ (.int .u32 (q k).2)).heap.size = ha + 2 ∧
          Below ha w' ((w2.setCell ⟨ha, k, none⟩ (.int .u64 (q k).1)).setCell ⟨ha + 1, k, none⟩ (.int .u32 (q k).2))) :=
        ⟨hP.step (by omega), by simpa [World.setCell] using hsz, (hB.setCell (Nat.le_refl _) _).setCell (show ha ≤ ha + 1 by omega) _⟩
      clear hP hsz hB Q1
      go_wp2_with fail
      refine (rank_any Q2 hlt hm).mono ?_
      rintro e w3 ⟨rfl, hw3⟩
      subst hw3
      clear Q2
      go_wp2
      go_roundw
      case rel => exact ⟨k + 1, by omega, by go_num, HR.out⟩
      case measure => simp [intOf]; omega
    · have P1 : Two wr ha (ha + 1) m q := hP.congr (fun i hi => by rw [show k = m by omega]; exact PartE.all q m i hi)
      clear hP
      go_wp2
      obtain ⟨V, hV⟩ : ∃ V, V = (wr.alloc (.cells (madeCells #[.int .u64 0] m) 36)).alloc (.cells (madeCells #[.int .u32 0] m) 38) := ⟨_, rfl⟩
      have BV : Below wr.heap.size wr V := by rw [hV]; exact ((Below.refl _ _).alloc (Nat.le_refl _) _).alloc (by simp) _
      have T1 : Two V wr.heap.size (wr.heap.size + 1) m (fun _ => (0, 0)) := by rw [hV]; exact Two.made wr m
      rw [← hV]
      rw [hsz] at T1
      have P2 := P1.below BV
      have B2 : Below ha w' V := hB.trans (BV.mono (by omega))
      clear hV hsz BV P1 hB hmk1 hmk2
      go_loopw [13] (fun v wr => ∃ k : Nat, k ≤ m ∧ v = .int .i64 k ∧ Two wr ha (ha + 1) m q ∧ Two wr (ha + 2) (ha + 2 + 1) m (PartE f k) ∧ Below ha w' wr) (fun v _ => m - (intOf v).toNat)
      case atStart => exact ⟨0, by omega, rfl, P2, T1.congr (fun i _ => PartE.zero _ i), B2⟩
      case round =>
        clear P2 T1 B2
        obtain ⟨l, hl, rfl, hP, hC, hB⟩ := hrel
        by_cases hlt2 : l < m
        · have T := hT.below (by rw [← HB.out]; exact hB)
          have x1 := T.1.cell hlt2
          have x2 := T.2.cell hlt2
          have y1 := hC.1.cell hlt2
          have y2 := hC.2.cell hlt2
          have y3 := hC.1.frozen l
          have y4 := hC.2.frozen l
          have l1 := hT.1.lt
          have l2 := hT.2.lt
          rw [← HB.out] at l1 l2
          have HR : Hid (Two ((wr.setCell ⟨ha + 2, l, none⟩ (.int .u64 (f l).1)).setCell ⟨ha + 2 + 1, l, none⟩ (.int .u32 (f l).2)) ha (ha + 1) m q ∧ Two ((wr.setCell ⟨ha + 2, l, none⟩ (.int .u64 (f l).1)).setCell ⟨ha + 2 + 1, l, none⟩ (.int .u32 (f l).2)) (ha + 2) (ha + 2 + 1) m (PartE f (l + 1)) ∧
              Below ha w' ((wr.setCell ⟨ha + 2, l, none⟩ (.int .u64 (f l).1)).setCell ⟨ha + 2 + 1, l, none⟩ (.int .u32 (f l).2))) :=
            ⟨⟨(hP.1.setOther (show ha ≠ ha + 2 by omega) _).setOther (show ha ≠ ha + 2 + 1 by omega) _, (hP.2.setOther (show ha + 1 ≠ ha + 2 by omega) _).setOther (show ha + 1 ≠ ha + 2 + 1 by omega) _⟩,
              hC.step (by omega), (hB.setCell (show ha ≤ ha + 2 by omega) _).setCell (show ha ≤ ha + 2 + 1 by omega) _⟩
          have u2 : ∀ v, (wr.setCell ⟨ha + 2, l, none⟩ v).cell? ⟨br, l, none⟩ = some (.int .u32 (f l).2) := fun v => (T.2.setOther (show br ≠ ha + 2 by omega) v).cell hlt2
          have u3 : ∀ v, (wr.setCell ⟨ha + 2, l, none⟩ v).cell? ⟨ha + 2 + 1, l, none⟩ = some (.int .u32 (PartE f l l).2) := fun v => (hC.2.setOther (show ha + 2 + 1 ≠ ha + 2 by omega) v).cell hlt2
          have u4 : ∀ v, (wr.setCell ⟨ha + 2, l, none⟩ v).frozen? ⟨ha + 2 + 1, l, none⟩ = false := fun v => (hC.2.setOther (show ha + 2 + 1 ≠ ha + 2 by omega) v).frozen l
          clear T hP hC hB
          go_wp2
          go_roundw
          case rel => exact ⟨l + 1, by omega, by go_num, HR.out⟩
          case measure => simp [intOf]; omega
        · have C1 : Two wr (ha + 2) (ha + 2 + 1) m f := hC.congr (fun i hi => by rw [show l = m by omega]; exact PartE.all f m i hi)
          clear hC
          go_wp2_with fail
          refine (sort_any ha (ha + 1) m _ _ q _ hP (by omega) hm).mono ?_
          rintro e w2 ⟨rfl, g1, hS1, hG1, hK1⟩
          have C2 := C1.keep hK1 (by omega) (by omega)
          have hB2 := hB.trans (hK1.to_below (by have := hB.size; have := HB.out; omega) (fun j hj e => by omega))
          clear C1 hP hB hK1
          go_wp2_with fail
          refine (sort_any (ha + 2) (ha + 2 + 1) m _ _ f _ C2 (by omega) hm).mono ?_
          rintro e w3 ⟨rfl, g2, hS2, hG2, hK2⟩
          have hG1' := hG1.keep hK2 (by omega) (by omega)
          have hB3 := hB2.trans (hK2.to_below (by have := hB2.size; have := HB.out; omega) (fun j hj e => by omega))
          have HE : Hid (∀ i, i < m → g1 i = g2 i) := sorted_unique hS1 hS2 hc
          have HB3 : Hid (Below ha w' w3) := hB3
          clear C2 hG1 hB2 hK2 hB3 hS1 hS2
          go_wp2
          go_loopw [14] (fun v wr => ∃ i : Nat, i ≤ m ∧ v = .int .i64 i ∧ ∃ d, wr = w3.drewN d) (fun v _ => m - (intOf v).toNat)
          case atStart => exact ⟨0, by omega, rfl, 0, rfl⟩
          case round =>
            obtain ⟨i, hi, rfl, d, rfl⟩ := hrel
            by_cases hlt3 : i < m
            · have y1 := hG1'.1.cell hlt3
              have y2 := hG1'.2.cell hlt3
              rw [HE.out i hlt3] at y1 y2
              have y3 := hG2.1.cell hlt3
              have y4 := hG2.2.cell hlt3
              have z1 : (i : Int) < (m : Int) := by omega
              have v1 : ((g2 i).1 != (g2 i).1) = false := by simp
              have v2 : ((g2 i).2 != (g2 i).2) = false := by simp
              clear hG1' hG2 hc
              go_wp2
              go_quiet (fail)
              go_wp2
              go_roundw
              case rel => exact ⟨i + 1, by omega, by go_num, _, rfl⟩
              case measure => simp [intOf]; omega
            · go_wp2
              go_ret
              rw [← HB.out]
              exact ⟨rfl, below_drewN HB3.out d⟩
end Go.Proofs.Qxb6003691a
