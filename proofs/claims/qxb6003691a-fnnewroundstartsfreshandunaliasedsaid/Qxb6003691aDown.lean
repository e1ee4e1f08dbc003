import Derived.Test.Qxb6003691aBase
import Derived.RegionCalls
import Derived.Deep.RegionWith
namespace Go.Proofs.Qxb6003691a
open Go.RowKit
set_option linter.unusedVariables false

set_option maxHeartbeats 2000000 in
theorem down_any (qb hb n cap t : Nat) (f : Nat → Int × Int) (w : World) (hq : w.cell? ⟨qb, 0, none⟩ = some (.slice (some ⟨hb, 0, none⟩) n cap)) (hh : Heap w hb n f) (hn : n ≤ 4096) (ht : t < n) (hH : HFrom n (t + 1) f) :
    Calls Try.prog 48 #[.pointer (some ⟨qb, 0, none⟩), .int .i64 t] w fun e w' => e = .returned (.tuple #[]) ∧ ∃ g, DownOk n t f g ∧ Heap w' hb n g ∧ Keep (fun b => b = hb) w w' := by
  have c1 := hh.fst (i := t) (by omega)
  have c2 := hh.snd (i := t) (by omega)
  have hlt := hh.lt
  obtain ⟨w1, hw1⟩ : ∃ w1, w1 = w.alloc (Obj.cells #[Value.int IntKind.u64 (f t).1, Value.int IntKind.u32 (f t).2] 72) := ⟨_, rfl⟩
  have K0 : Keep (fun b => b = hb) w w1 := by rw [hw1]; exact (Keep.refl _ _).alloc _
  have hh1 : Heap w1 hb n f := by rw [hw1]; exact hh.alloc _
  have e1 : w1.cell? ⟨w.heap.size, 0, none⟩ = some (Value.int IntKind.u64 (f t).1) := by rw [hw1]; simp
  have e2 : w1.cell? ⟨w.heap.size, 1, none⟩ = some (Value.int IntKind.u32 (f t).2) := by rw [hw1]; simp
  have hs1 : w1.heap.size = w.heap.size + 1 := by rw [hw1]; simp
  have HW : Hid (w1 = w.alloc (Obj.cells #[Value.int IntKind.u64 (f t).1, Value.int IntKind.u32 (f t).2] 72)) := hw1
  clear hw1
  have E1 : Hid (w1.cell? ⟨w.heap.size, 0, none⟩ = some (Value.int IntKind.u64 (f t).1) ∧ w1.cell? ⟨w.heap.size, 1, none⟩ = some (Value.int IntKind.u32 (f t).2) ∧ w1.heap.size = w.heap.size + 1) := ⟨e1, e2, hs1⟩
  clear hh e1 e2 hs1
  go_enter Try.func48, Try.ntmps48
  go_wp2
  rw [← HW.out]
  clear c1 c2 hq
  go_loopw [1] (fun v wr => ∃ (k : Nat) (g : Nat → Int × Int), k < n ∧ v = .int .i64 k ∧ Heap wr hb n g ∧ Hole n t k (f t) f g ∧ Keep (fun b => b = hb) w1 wr) (fun v _ => n - (intOf v).toNat)
  case atStart => exact ⟨t, f, ht, rfl, hh1, Hole.start ht hH, Keep.refl _ _⟩
  case round =>
    obtain ⟨k, g, hk, rfl, hg, hole, hkeep⟩ := hrel
    clear hh1
    by_cases hlt1 : 4 * k + 1 < n
    · go_wp2
      go_loopw [8, 9] (fun x c w2 => ∃ (cn nx : Nat), 4 * k + 2 ≤ cn ∧ cn ≤ 4 * k + 5 ∧ cn ≤ n ∧ 4 * k + 1 ≤ nx ∧ nx < cn ∧ x = .int .i64 nx ∧ c = .int .i64 cn ∧ Heap w2 hb n g ∧ Keep (fun b => b = hb) w1 w2 ∧ (∀ j, 4 * k + 1 ≤ j → j < cn → bef (g j) (g nx) = false)) (fun _ c _ => n - (intOf c).toNat)
      case atStart => exact ⟨4 * k + 2, 4 * k + 1, by omega, by omega, by omega, by omega, by omega, by go_num, by go_num, hg, hkeep, fun j h1 h2 => by rw [show j = 4 * k + 1 by omega]; exact bef_irrefl _⟩
      case round =>
        obtain ⟨cn, nx, h1, h2, h3, h4, h5, rfl, rfl, hg2, hk2, hbest⟩ := hrel
        have HB := (show Hid (∀ j, 4 * k + 1 ≤ j → j < cn → bef (g j) (g nx) = false) from hbest)
        clear hbest
        by_cases hc : cn < 4 * k + 5 ∧ cn < n
        · obtain ⟨hc1, hc2⟩ := hc
          have a1 := hg2.fst (i := cn) (by omega)
          have a2 := hg2.snd (i := cn) (by omega)
          have a3 := hg2.fst (i := nx) (by omega)
          have a4 := hg2.snd (i := nx) (by omega)
          go_wp2
          go_region_with (go_at_call 53; refine (before_any _ _ _).mono ?_; rintro e w' ⟨rfl, hbel⟩)
          all_goals go_wp2
          all_goals
            have G : Heap w' hb n g := hg2.drew.below hbel
            have K : Keep (fun b => b = hb) w1 w' := hk2.drew.below hbel
            go_roundw
          all_goals first
            | (case rel => exact ⟨cn + 1, cn, by omega, by omega, by omega, by omega, by omega, rfl, by go_num, G, K, fun j j1 j2 => by
                by_cases e : j = cn
                · rw [e]; exact bef_irrefl _
                · exact bef_trans' (by assumption) (HB.out j j1 (by omega))⟩)
            | (case rel => exact ⟨cn + 1, nx, by omega, by omega, by omega, by omega, by omega, rfl, by go_num, G, K, fun j j1 j2 => by
                by_cases e : j = cn
                · rw [e]; assumption
                · exact HB.out j j1 (by omega)⟩)
            | (case measure => simp [intOf]; omega)
        · have a1 := hg2.fst (i := k) (by omega)
          have a2 := hg2.snd (i := k) (by omega)
          have a3 := hg2.fst (i := nx) (by omega)
          have a4 := hg2.snd (i := nx) (by omega)
          have f1 := hg2.frozen (k * 2)
          have f2 := hg2.frozen (k * 2 + 1)
          have HR : Hid (Heap ((wr.setCell ⟨hb, k * 2, none⟩ (.int .u64 (g nx).1)).setCell ⟨hb, k * 2 + 1, none⟩ (.int .u32 (g nx).2)) hb n (upd g k (g nx)) ∧
              Hole n t nx (f t) f (upd g k (g nx)) ∧ Keep (fun b => b = hb) w1 ((wr.setCell ⟨hb, k * 2, none⟩ (.int .u64 (g nx).1)).setCell ⟨hb, k * 2 + 1, none⟩ (.int .u32 (g nx).2))) :=
            ⟨hg2.set hk _, hole.sink (by omega) (by omega) (by omega) (fun j j1 j2 j3 => HB.out j j1 (by omega)), (hk2.setCell (.inl rfl) _).setCell (.inl rfl) _⟩
          clear hole hk2 hg2 hkeep hg
          by_cases hc2 : cn < 4 * k + 5
          all_goals
            go_wp2
            go_roundw
            case rel => exact ⟨nx, upd g k (g nx), by omega, rfl, HR.out.1, HR.out.2.1, HR.out.2.2⟩
            case measure => simp [intOf]; omega
    · have hkids : Kids n k (f t) g := Kids.leaf (by omega)
      go_wp2
      rw [show decide ((n : Int) ≤ 4 * (k : Int) + 1) = true from by simp; omega]
      go_loopw [1] (fun v wr => ∃ (k : Nat) (g : Nat → Int × Int), k < n ∧ v = .int .i64 k ∧ Heap wr hb n g ∧ Hole n t k (f t) f g ∧ Kids n k (f t) g ∧ Keep (fun b => b = hb) w1 wr) (fun v _ => (intOf v).toNat)
      case atStart => exact ⟨k, g, hk, rfl, hg, hole, hkids, hkeep⟩
      case round =>
        clear hk hg hole hkids hkeep hlt1
        obtain ⟨j, q, hj, rfl, hg, hole, hkids, hkeep⟩ := hrel
        have x1 := hg.fst (i := j) hj
        have x2 := hg.snd (i := j) hj
        have y1 : wr.cell? ⟨w.heap.size, 0, none⟩ = some (Value.int IntKind.u64 (f t).1) := by
          rw [hkeep.cell (by show w.heap.size < _; rw [E1.out.2.2]; omega) (by show ¬ w.heap.size = hb; omega)]; exact E1.out.1
        have y2 : wr.cell? ⟨w.heap.size, 1, none⟩ = some (Value.int IntKind.u32 (f t).2) := by
          rw [hkeep.cell (by show w.heap.size < _; rw [E1.out.2.2]; omega) (by show ¬ w.heap.size = hb; omega)]; exact E1.out.2.1
        have f1 := hg.frozen (j * 2)
        have f2 := hg.frozen (j * 2 + 1)
        by_cases hjt : t < j
        · obtain ⟨p, hp⟩ : ∃ p : Nat, p = (j - 1) / 4 := ⟨_, rfl⟩
          have HP : Hid (p = (j - 1) / 4) := hp
          have hpi : ((j : Int) - 1) / 4 = (p : Int) := by omega
          have HPI : Hid (((j : Int) - 1) / 4 = (p : Int)) := hpi
          have hpj : p < j := by omega
          have hpn : p < n := by omega
          have z1 := hg.fst (i := p) hpn
          have z2 := hg.snd (i := p) hpn
          clear hp hpi
          cases hbe : bef (f t) (q p)
          · have HD : Hid (DownOk n t f (upd q j (f t))) := hole.fill hkids (.inr (by rw [← HP.out]; exact hbe))
            clear hole hkids
            go_wp2
            rw [HPI.out]
            go_region_with (go_at_call 53; refine (before_any _ _ _).mono ?_; rintro e w' ⟨rfl, hbel⟩)
            all_goals
              have G : Heap w' hb n q := hg.drew.below hbel
              have K : Keep (fun b => b = hb) w w' := K0.trans (hkeep.drew.below hbel)
              have v1 := G.frozen (j * 2)
              have v2 := G.frozen (j * 2 + 1)
              have v3 := G.fst (i := j) hj
              have v4 := G.snd (i := j) hj
              have v5 : w'.cell? ⟨w.heap.size, 0, none⟩ = some (Value.int IntKind.u64 (f t).1) := by
                rw [hkeep.drew.below hbel |>.cell (by show w.heap.size < _; rw [E1.out.2.2]; omega) (by show ¬ w.heap.size = hb; omega)]; exact E1.out.1
              have v6 : w'.cell? ⟨w.heap.size, 1, none⟩ = some (Value.int IntKind.u32 (f t).2) := by
                rw [hkeep.drew.below hbel |>.cell (by show w.heap.size < _; rw [E1.out.2.2]; omega) (by show ¬ w.heap.size = hb; omega)]; exact E1.out.2.1
              have HR : Hid (Heap ((w'.setCell ⟨hb, j * 2, none⟩ (.int .u64 (f t).1)).setCell ⟨hb, j * 2 + 1, none⟩ (.int .u32 (f t).2)) hb n (upd q j (f t)) ∧
                Keep (fun b => b = hb) w ((w'.setCell ⟨hb, j * 2, none⟩ (.int .u64 (f t).1)).setCell ⟨hb, j * 2 + 1, none⟩ (.int .u32 (f t).2))) :=
                ⟨G.set hj _, (K.setCell (.inl rfl) _).setCell (.inl rfl) _⟩
              clear G K hbel hkeep K0 hg x1 x2 y1 y2 z1 z2 f1 f2
              go_wp2
              go_end0
              exact ⟨rfl, _, HD.out, HR.out⟩
          · have HD : Hid (Hole n t p (f t) f (upd q j (q p)) ∧ Kids n p (f t) (upd q j (q p))) := by
              have hbe' : bef (f t) (q ((j - 1) / 4)) = true := by rw [← HP.out]; exact hbe
              rw [HP.out]
              exact ⟨hole.rise hjt hbe', Kids.rise hole hjt hbe'⟩
            clear hole hkids
            go_wp2
            rw [HPI.out]
            go_region_with (go_at_call 53; refine (before_any _ _ _).mono ?_; rintro e w' ⟨rfl, hbel⟩)
            all_goals
              have G : Heap w' hb n q := hg.drew.below hbel
              have K : Keep (fun b => b = hb) w1 w' := hkeep.drew.below hbel
              have v1 := G.frozen (j * 2)
              have v2 := G.frozen (j * 2 + 1)
              have v3 := G.fst (i := j) hj
              have v4 := G.snd (i := j) hj
              have v5 := G.fst (i := p) hpn
              have v6 := G.snd (i := p) hpn
              have HR : Hid (Heap ((w'.setCell ⟨hb, j * 2, none⟩ (.int .u64 (q p).1)).setCell ⟨hb, j * 2 + 1, none⟩ (.int .u32 (q p).2)) hb n (upd q j (q p)) ∧
                Keep (fun b => b = hb) w1 ((w'.setCell ⟨hb, j * 2, none⟩ (.int .u64 (q p).1)).setCell ⟨hb, j * 2 + 1, none⟩ (.int .u32 (q p).2))) :=
                ⟨G.set hj _, (K.setCell (.inl rfl) _).setCell (.inl rfl) _⟩
              clear G K hbel hkeep K0 hg x1 x2 y1 y2 z1 z2 f1 f2
              go_wp2
              go_roundw
              case rel => exact ⟨p, upd q j (q p), hpn, rfl, HR.out.1, HD.out.1, HD.out.2, HR.out.2⟩
              case measure => simp [intOf]; omega
        · have HR : Hid (DownOk n t f (upd q j (f t)) ∧ Heap ((wr.setCell ⟨hb, j * 2, none⟩ (.int .u64 (f t).1)).setCell ⟨hb, j * 2 + 1, none⟩ (.int .u32 (f t).2)) hb n (upd q j (f t)) ∧
              Keep (fun b => b = hb) w ((wr.setCell ⟨hb, j * 2, none⟩ (.int .u64 (f t).1)).setCell ⟨hb, j * 2 + 1, none⟩ (.int .u32 (f t).2))) :=
            ⟨hole.fill hkids (.inl (by omega)), hg.set hj _, K0.trans ((hkeep.setCell (.inl rfl) _).setCell (.inl rfl) _)⟩
          clear hole hkids hkeep hg K0
          go_wp2
          go_end0
          exact ⟨rfl, _, HR.out⟩
end Go.Proofs.Qxb6003691a
