import Derived.Test.Qxb6003691aRow
import Derived.Test.Qxb6003691aDown
namespace Go.Proofs.Qxb6003691a
open Go.RowKit
set_option linter.unusedVariables false

/-- Block qb is a queue whose heap are the n entries f, in block hb. -/
def Que (w : World) (qb hb n : Nat) (f : Nat → Int × Int) : Prop :=
  ∃ cap, w.heap[qb]? = some (.cells #[.slice (some ⟨hb, 0, none⟩) n cap, .slice none 0 0] 75 (0, 0)) ∧ n ≤ cap ∧ Heap w hb n f ∧ qb ≠ hb

theorem Heap.setFst {w : World} {hb n : Nat} {f : Nat → Int × Int} (h : Heap w hb n f) {i : Nat} (hi : i < n) (a : Int) :
    Heap (w.setCell ⟨hb, i * 2, none⟩ (.int .u64 a)) hb n (upd f i (a, (f i).2)) := by
  obtain ⟨c, hc, hs, hv⟩ := h
  refine ⟨c.setIfInBounds (i * 2) (.int .u64 a), ?_, by simpa using hs, fun j hj => ?_⟩
  · simp [World.setCell, Array.getElem?_modify, hc]
  · by_cases e : j = i
    · subst e
      rw [upd_same]
      constructor
      · rw [Array.getElem?_setIfInBounds_self_of_lt (by omega)]
      · rw [Array.getElem?_setIfInBounds_ne (by omega)]; exact (hv j hj).2
    · rw [upd_other _ e]
      constructor
      · rw [Array.getElem?_setIfInBounds_ne (by omega)]; exact (hv j hj).1
      · rw [Array.getElem?_setIfInBounds_ne (by omega)]; exact (hv j hj).2

namespace Que
variable {w w' : World} {qb hb n : Nat} {f : Nat → Int × Int}
theorem heap (h : Que w qb hb n f) : Heap w hb n f := by obtain ⟨_, _, _, h, _⟩ := h; exact h
theorem ne (h : Que w qb hb n f) : qb ≠ hb := by obtain ⟨_, _, _, _, h⟩ := h; exact h
theorem cell (h : Que w qb hb n f) : ∃ cap, n ≤ cap ∧ w.cell? ⟨qb, 0, none⟩ = some (.slice (some ⟨hb, 0, none⟩) n cap) ∧ w.frozen? ⟨qb, 0, none⟩ = false := by
  obtain ⟨cap, h, hc, _, _⟩ := h
  exact ⟨cap, hc, by simp [World.cell?, h], by simp [World.frozen?, h]⟩
theorem lt (h : Que w qb hb n f) : qb < w.heap.size := by
  obtain ⟨cap, h, _⟩ := h
  exact (Array.getElem?_eq_some_iff.1 h).1
theorem below (h : Que w qb hb n f) (k : Below w.heap.size w w') : Que w' qb hb n f := by
  have hlt := h.lt
  obtain ⟨cap, h1, h2, h3, h4⟩ := h
  exact ⟨cap, (k.block _ hlt).trans h1, h2, h3.below k, h4⟩
theorem keep {S : Nat → Prop} (h : Que w qb hb n f) (k : Keep S w w') (hS : ¬ S hb) (hS' : ¬ S qb) : Que w' qb hb n f := by
  have hlt := h.lt
  obtain ⟨cap, h1, h2, h3, h4⟩ := h
  exact ⟨cap, (k.block _ hlt hS').trans h1, h2, h3.keep k hS, h4⟩
theorem drew (h : Que w qb hb n f) : Que w.drew qb hb n f := h
theorem setOther (h : Que w qb hb n f) {a : Addr} (h1 : qb ≠ a.block) (h2 : hb ≠ a.block) (v : Value) : Que (w.setCell a v) qb hb n f := by
  obtain ⟨cap, g1, g2, g3, g4⟩ := h
  exact ⟨cap, (Below.heap_setCell _ _ _ _ h1).trans g1, g2, g3.setOther h2 v, g4⟩
/-- The heap's block alone has turned. -/
theorem turned {g : Nat → Int × Int} (h : Que w qb hb n f) (k : Keep (fun b => b = hb) w w') (hg : Heap w' hb n g) : Que w' qb hb n g := by
  have hlt := h.lt
  have hne := h.ne
  obtain ⟨cap, h1, h2, h3, h4⟩ := h
  exact ⟨cap, (k.block _ hlt hne).trans h1, h2, hg, h4⟩
theorem congr {g : Nat → Int × Int} (h : Que w qb hb n f) (e : ∀ i, i < n → f i = g i) : Que w qb hb n g := by
  obtain ⟨cap, h1, h2, h3, h4⟩ := h
  exact ⟨cap, h1, h2, h3.congr e, h4⟩
end Que

section
variable {w : World} {qb hb n : Nat} {f : Nat → Int × Int}

theorem zzLen_any (h : Que w qb hb n f) : Calls Try.prog 41 #[.pointer (some ⟨qb, 0, none⟩)] w fun e w' => e = .returned (.int .i64 n) ∧ w' = w := by
  obtain ⟨cap, hc, hq, hf⟩ := h.cell
  clear h
  go_enter Try.func41, Try.ntmps41
  go_wp2
  go_ret
  exact ⟨rfl, rfl⟩
theorem queueLen_any (h : Que w qb hb n f) : Calls Try.prog 46 #[.pointer (some ⟨qb, 0, none⟩)] w fun e w' => e = .returned (.int .i64 n) ∧ w' = w := by
  obtain ⟨cap, hc, hq, hf⟩ := h.cell
  clear h
  go_enter Try.func46, Try.ntmps46
  go_wp2
  go_ret
  exact ⟨rfl, rfl⟩
theorem allowance_any (h : Que w qb hb n f) {i : Nat} (hi : i < n) (hn : n ≤ 4096) : Calls Try.prog 18 #[.pointer (some ⟨qb, 0, none⟩), .int .i64 i] w fun e w' => e = .returned (.int .u64 (f i).1) ∧ w' = w := by
  obtain ⟨cap, hc, hq, hf⟩ := h.cell
  have c1 := h.heap.fst hi
  clear h
  go_enter Try.func18, Try.ntmps18
  go_wp2
  go_ret
  exact ⟨rfl, rfl⟩
theorem rank_any (h : Que w qb hb n f) {i : Nat} (hi : i < n) (hn : n ≤ 4096) : Calls Try.prog 19 #[.pointer (some ⟨qb, 0, none⟩), .int .i64 i] w fun e w' => e = .returned (.int .u32 (f i).2) ∧ w' = w := by
  obtain ⟨cap, hc, hq, hf⟩ := h.cell
  have c1 := h.heap.snd hi
  clear h
  go_enter Try.func19, Try.ntmps19
  go_wp2
  go_ret
  exact ⟨rfl, rfl⟩
theorem entry_any (h : Que w qb hb n f) {i : Nat} (hi : i < n) (hn : n ≤ 4096) : Calls Try.prog 42 #[.pointer (some ⟨qb, 0, none⟩), .int .i64 i] w fun e w' => e = .returned (.tuple #[.int .u64 (f i).1, .int .u32 (f i).2]) ∧ Below w.heap.size w w' := by
  obtain ⟨cap, hc, hq, hf⟩ := h.cell
  have c1 := h.heap.fst hi
  have c2 := h.heap.snd hi
  clear h
  go_enter Try.func42, Try.ntmps42
  go_wp2
  go_region
  all_goals (try go_wp2)
  all_goals go_ret2
  all_goals exact ⟨rfl, ((Below.refl _ _).alloc (Nat.le_refl _) _).drew⟩
theorem setEntry_any (h : Que w qb hb n f) {i : Nat} (hi : i < n) (hn : n ≤ 4096) (a r : Int) : Calls Try.prog 51 #[.pointer (some ⟨qb, 0, none⟩), .int .i64 i, .int .u64 a, .int .u32 r] w fun e w' => e = .returned (.tuple #[]) ∧ Que w' qb hb n (upd f i (a, r)) ∧ Keep (fun b => b = hb) w w' := by
  obtain ⟨cap, hc, hq, hf⟩ := h.cell
  have c1 := h.heap.fst hi
  have c2 := h.heap.snd hi
  have c3 := h.heap.frozen (i * 2)
  have c4 := h.heap.frozen (i * 2 + 1)
  have K0 : Keep (fun b => b = hb) w ((w.setCell ⟨hb, i * 2, none⟩ (.int .u64 a)).setCell ⟨hb, i * 2 + 1, none⟩ (.int .u32 r)) := ((Keep.refl (fun b => b = hb) w).setCell (.inl rfl) _).setCell (.inl rfl) _
  have K : Hid _ := K0
  have Q : Hid _ := h.turned K0 (h.heap.set hi (a, r))
  clear h K0
  go_enter Try.func51, Try.ntmps51
  go_wp2
  go_end0
  exact ⟨rfl, Q.out, K.out⟩
theorem newQueue_any (hn : n ≤ 4096) : Calls Try.prog 50 #[.int .i64 n] w fun e w' => ∃ qb hb, e = .returned (.pointer (some ⟨qb, 0, none⟩)) ∧ Que w' qb hb n (fun _ => (0, 0)) ∧ w.heap.size ≤ qb ∧ w.heap.size ≤ hb ∧ Below w.heap.size w w' := by
  have hmk := make_queued n (by omega)
  go_enter Try.func50, Try.ntmps50
  go_wp2
  go_ret
  have h1 : ((w.alloc (.cells (madeCells #[.int .u64 0, .int .u32 0] (n * 2)) 72)).alloc (.cells #[.slice (some ⟨w.heap.size, 0, none⟩) n n, .slice none 0 0] 75)).heap[w.heap.size + 1]? = some (.cells #[.slice (some ⟨w.heap.size, 0, none⟩) n n, .slice none 0 0] 75 (0, 0)) := by
    show ((w.heap.push _).push _)[_]? = _
    rw [Array.getElem?_push]; simp
  exact ⟨w.heap.size + 1, w.heap.size, rfl, ⟨n, h1, Nat.le_refl _, (Heap.made w n).alloc _, by omega⟩, by omega, Nat.le_refl _, ((Below.refl _ _).alloc (Nat.le_refl _) _).alloc (by simp) _⟩
theorem zzDown_any (h : Que w qb hb n f) {t : Nat} (ht : t < n) (hn : n ≤ 4096) (hH : HFrom n (t + 1) f) :
    Calls Try.prog 52 #[.pointer (some ⟨qb, 0, none⟩), .int .i64 t] w fun e w' => e = .returned (.tuple #[]) ∧ ∃ g, DownOk n t f g ∧ Que w' qb hb n g ∧ Keep (fun b => b = hb) w w' := by
  obtain ⟨cap, hc, hq, hf⟩ := h.cell
  go_enter Try.func52, Try.ntmps52
  go_wp2_with (go_at_call 48; refine (down_any qb hb n cap t f w hq h.heap hn ht hH).mono ?_; rintro e w' ⟨rfl, g, hd, hg, hk⟩)
  go_end0
  exact ⟨rfl, g, hd, h.turned hk hg, hk⟩
theorem queueDown_any (h : Que w qb hb n f) {t : Nat} (ht : t < n) (hn : n ≤ 4096) (hH : HFrom n (t + 1) f) :
    Calls Try.prog 23 #[.pointer (some ⟨qb, 0, none⟩), .int .i64 t] w fun e w' => e = .returned (.tuple #[]) ∧ ∃ g, DownOk n t f g ∧ Que w' qb hb n g ∧ Keep (fun b => b = hb) w w' := by
  obtain ⟨cap, hc, hq, hf⟩ := h.cell
  go_enter Try.func23, Try.ntmps23
  go_wp2_with (go_at_call 48; refine (down_any qb hb n cap t f w hq h.heap hn ht hH).mono ?_; rintro e w' ⟨rfl, g, hd, hg, hk⟩)
  go_end0
  exact ⟨rfl, g, hd, h.turned hk hg, hk⟩

theorem drop_world {m cap : Nat} (h : Que w qb hb (m + 1) f) (hcell : w.cell? ⟨qb, 0, none⟩ = some (.slice (some ⟨hb, 0, none⟩) (m + 1) cap)) :
    Que (((w.setCell ⟨hb, 0, none⟩ (.int .u64 (f m).1)).setCell ⟨hb, 1, none⟩ (.int .u32 (f m).2)).setCell ⟨qb, 0, none⟩ (.slice (some ⟨hb, 0, none⟩) m cap)).drew qb hb m (upd f 0 (f m)) ∧
    Keep (fun b => b = hb ∨ b = qb) w (((w.setCell ⟨hb, 0, none⟩ (.int .u64 (f m).1)).setCell ⟨hb, 1, none⟩ (.int .u32 (f m).2)).setCell ⟨qb, 0, none⟩ (.slice (some ⟨hb, 0, none⟩) m cap)).drew := by
  have hH := h.heap.set (i := 0) (by omega) (f m)
  simp only [Nat.zero_mul, Nat.zero_add] at hH
  have hne := h.ne
  obtain ⟨c', h1, h2, h3, h4⟩ := h
  have hcap : c' = cap := by
    simp [World.cell?, h1] at hcell
    exact hcell
  subst hcap
  refine ⟨⟨c', ?_, by omega, ((hH.less (by omega)).setOther (by exact fun e => hne e.symm) _).drew, h4⟩, ?_⟩
  · show (((w.setCell ⟨hb, 0, none⟩ (.int .u64 (f m).1)).setCell ⟨hb, 1, none⟩ (.int .u32 (f m).2)).setCell ⟨qb, 0, none⟩ (.slice (some ⟨hb, 0, none⟩) m c')).heap[qb]? = _
    have e1 : ((w.setCell ⟨hb, 0, none⟩ (.int .u64 (f m).1)).setCell ⟨hb, 1, none⟩ (.int .u32 (f m).2)).heap[qb]? = some (.cells #[.slice (some ⟨hb, 0, none⟩) (m + 1) c', .slice none 0 0] 75 (0, 0)) := by
      rw [Below.heap_setCell _ _ _ _ (by exact hne), Below.heap_setCell _ _ _ _ (by exact hne)]; exact h1
    generalize (w.setCell ⟨hb, 0, none⟩ (.int .u64 (f m).1)).setCell ⟨hb, 1, none⟩ (.int .u32 (f m).2) = W at e1
    simp [World.setCell, Array.getElem?_modify, e1]
  · exact ((((Keep.refl (fun b => b = hb ∨ b = qb) w).setCell (.inl (.inl rfl)) _).setCell (.inl (.inl rfl)) _).setCell (.inl (.inr rfl)) _).drew

set_option maxHeartbeats 1000000 in
theorem dropFirst_any {m : Nat} (h : Que w qb hb (m + 1) f) (hn : m + 1 ≤ 4096) (hH : HFrom (m + 1) 0 f) :
    Calls Try.prog 47 #[.pointer (some ⟨qb, 0, none⟩)] w fun e w' => e = .returned (.tuple #[]) ∧ ∃ g, DropOk m f g ∧ Que w' qb hb m g ∧ Keep (fun b => b = hb ∨ b = qb) w w' := by
  have hne := h.ne
  obtain ⟨cap, hc, hq, hf⟩ := h.cell
  have c1 := h.heap.fst (i := 0) (by omega)
  have c2 := h.heap.snd (i := 0) (by omega)
  have c3 := h.heap.fst (i := m) (by omega)
  have c4 := h.heap.snd (i := m) (by omega)
  have c5 := h.heap.frozen 0
  have c6 := h.heap.frozen 1
  simp only [Nat.zero_mul, Nat.zero_add] at c1 c2
  have D := drop_world h hq
  obtain ⟨W, hW⟩ : ∃ W, W = (((w.setCell ⟨hb, 0, none⟩ (.int .u64 (f m).1)).setCell ⟨hb, 1, none⟩ (.int .u32 (f m).2)).setCell ⟨qb, 0, none⟩ (.slice (some ⟨hb, 0, none⟩) m cap)).drew := ⟨_, rfl⟩
  rw [← hW] at D
  have HW : Hid (W = (((w.setCell ⟨hb, 0, none⟩ (.int .u64 (f m).1)).setCell ⟨hb, 1, none⟩ (.int .u32 (f m).2)).setCell ⟨qb, 0, none⟩ (.slice (some ⟨hb, 0, none⟩) m cap)).drew) := hW
  clear hW h
  obtain ⟨Q1, K1⟩ := D
  rcases Nat.eq_zero_or_pos m with h0 | h0
  · have h0' : m ≤ 0 := by omega
    have H0 : Hid (m = 0) := h0
    clear h0
    go_enter Try.func47, Try.ntmps47
    go_wp2
    go_region
    go_wp2
    go_end0
    have e := H0.out
    subst e
    rw [HW.out] at Q1 K1
    exact ⟨rfl, _, drop_zero f _, Q1, K1⟩
  · obtain ⟨cap', hc', hq', hf'⟩ := Q1.cell
    have hH' := drop_start hH
    go_enter Try.func47, Try.ntmps47
    go_wp2
    go_region
    go_wp2_with fail
    rw [← HW.out]
    refine (down_any qb hb m cap' 0 (upd f 0 (f m)) W hq' Q1.heap (by omega) h0 hH').mono ?_
    rintro e w' ⟨rfl, g, hd, hg, hk⟩
    go_wp2
    go_end0
    exact ⟨rfl, g, drop_end h0 hd, Q1.turned hk hg, K1.trans (hk.mono (fun _ h => .inl h))⟩

theorem zzDropFirst_any {m : Nat} (h : Que w qb hb (m + 1) f) (hn : m + 1 ≤ 4096) (hH : HFrom (m + 1) 0 f) :
    Calls Try.prog 43 #[.pointer (some ⟨qb, 0, none⟩)] w fun e w' => e = .returned (.tuple #[]) ∧ ∃ g, DropOk m f g ∧ Que w' qb hb m g ∧ Keep (fun b => b = hb ∨ b = qb) w w' := by
  go_enter Try.func43, Try.ntmps43
  go_wp2_with (go_at_call 47; refine (dropFirst_any h hn hH).mono ?_; rintro e w' ⟨rfl, hd⟩)
  go_end0
  exact ⟨rfl, hd⟩
theorem queueDropFirst_any {m : Nat} (h : Que w qb hb (m + 1) f) (hn : m + 1 ≤ 4096) (hH : HFrom (m + 1) 0 f) :
    Calls Try.prog 21 #[.pointer (some ⟨qb, 0, none⟩)] w fun e w' => e = .returned (.tuple #[]) ∧ ∃ g, DropOk m f g ∧ Que w' qb hb m g ∧ Keep (fun b => b = hb ∨ b = qb) w w' := by
  go_enter Try.func21, Try.ntmps21
  go_wp2_with (go_at_call 47; refine (dropFirst_any h hn hH).mono ?_; rintro e w' ⟨rfl, hd⟩)
  go_end0
  exact ⟨rfl, hd⟩
theorem setAllowance_any (h : Que w qb hb n f) {i : Nat} (hi : i < n) (hn : n ≤ 4096) (a : Int) : Calls Try.prog 22 #[.pointer (some ⟨qb, 0, none⟩), .int .i64 i, .int .u64 a] w fun e w' => e = .returned (.tuple #[]) ∧ Que w' qb hb n (upd f i (a, (f i).2)) ∧ Keep (fun b => b = hb) w w' := by
  obtain ⟨cap, hc, hq, hf⟩ := h.cell
  have c1 := h.heap.fst hi
  have c3 := h.heap.frozen (i * 2)
  have K0 : Keep (fun b => b = hb) w (w.setCell ⟨hb, i * 2, none⟩ (.int .u64 a)) := (Keep.refl (fun b => b = hb) w).setCell (.inl rfl) _
  have K : Hid _ := K0
  have Q : Hid _ := h.turned K0 (h.heap.setFst hi a)
  clear h K0
  go_enter Try.func22, Try.ntmps22
  go_wp2
  go_end0
  exact ⟨rfl, Q.out, K.out⟩
end
end Go.Proofs.Qxb6003691a
