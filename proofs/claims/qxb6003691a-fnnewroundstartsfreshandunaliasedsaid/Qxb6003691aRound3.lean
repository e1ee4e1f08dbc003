import Derived.Test.Qxb6003691aRound2
import Derived.Deep.RegionHeld3
import Derived.Deep.Cut
namespace Go.Proofs.Qxb6003691a
open Go.RowKit
set_option linter.unusedVariables false
set_option linter.unusedSimpArgs false

theorem Mat.of_blocks {w w' : World} {rb cb n : Nat} {G : Nat → Int} (h : Mat w rb cb n G) (e1 : w'.heap[rb]? = w.heap[rb]?) (e2 : w'.heap[cb]? = w.heap[cb]?) : Mat w' rb cb n G :=
  ⟨h.1.of_block e1, h.2.1.of_block e2, h.2.2⟩
theorem Mat.below {w w' : World} {rb cb n : Nat} {G : Nat → Int} (h : Mat w rb cb n G) (k : Below w.heap.size w w') : Mat w' rb cb n G :=
  h.of_blocks (k.block _ h.1.lt) (k.block _ h.2.1.lt)
theorem Mat.alloc {w : World} {rb cb n : Nat} {G : Nat → Int} (h : Mat w rb cb n G) (o : Obj) : Mat (w.alloc o) rb cb n G := h.below ((Below.refl _ _).alloc (Nat.le_refl _) _)

theorem keepc {bx : Nat} {w1 W W' : World} (h1 : Hid (w1.heap.size = bx + 1)) (h : Below (bx + 1) w1 W) (k : Below W.heap.size W W') : Below (bx + 1) w1 W' :=
  h.trans (k.mono (by have := h.size; have := h1.out; omega))
theorem keepa {bx : Nat} {w1 W : World} (h1 : Hid (w1.heap.size = bx + 1)) (h : Below (bx + 1) w1 W) (o : Obj) : Below (bx + 1) w1 (W.alloc o) :=
  h.alloc (by have := h.size; have := h1.out; omega) o

/-- Flags, and where they end. -/
def FlagsIn (w : World) (fb n : Nat) (F : Nat → Nat → Bool) : Prop := Flags w fb n F ∧ fb + n < w.heap.size
theorem FlagsIn.below {w w' : World} {fb n : Nat} {F : Nat → Nat → Bool} (h : FlagsIn w fb n F) (k : Below w.heap.size w w') : FlagsIn w' fb n F :=
  ⟨h.1.of_blocks (fun i hi => k.block _ (by have := h.2; omega)), Nat.lt_of_lt_of_le h.2 k.size⟩
theorem FlagsIn.alloc {w : World} {fb n : Nat} {F : Nat → Nat → Bool} (h : FlagsIn w fb n F) (o : Obj) : FlagsIn (w.alloc o) fb n F :=
  h.below ((Below.refl _ _).alloc (Nat.le_refl _) _)
theorem size_drew (w : World) : w.drew.heap.size = w.heap.size := rfl
theorem heap_new (w : World) (o : Obj) (k : Nat) (h : k = w.heap.size) : (w.alloc o).heap[k]? = some o := by
  subst h; show (w.heap.push o)[_]? = _; simp

/-- The world behind make([]uint64, n). -/
def mkW (n : Nat) (w : World) : World := w.alloc (.cells (madeCells #[.int .u64 0] n) 36)
theorem mkW_ext (n : Nat) (w : World) : Below w.heap.size w (mkW n w) := (Below.refl _ _).alloc (Nat.le_refl _) _
theorem mkW_row (n : Nat) (w : World) : Row (mkW n w) w.heap.size n (fun _ => .int .u64 0) := Row.made _ _ _ _
theorem mkW_row' (n : Nat) (w : World) : Row (mkW n w.drew) w.heap.size n (fun _ => .int .u64 0) := mkW_row n w.drew
theorem mkW_size (n : Nat) (w : World) : (mkW n w).heap.size = w.heap.size + 1 := by simp [mkW]
theorem run_mkW (n : Nat) (hn : n ≤ 64) (w : World) :
    (Instr.makeSlice 22 (.int .i64 (n : Int)) (.int .i64 (n : Int))).run Try.prog w = .ok (.slice (some ⟨w.heap.size, 0, none⟩) n n) (mkW n w) := make_u64 n (by omega) w

theorem Mat.mkW {w : World} {rb cb n : Nat} {G : Nat → Int} (h : Mat w rb cb n G) (k : Nat) : Mat (mkW k w) rb cb n G := h.below (mkW_ext _ _)
theorem Row.mkW {w : World} {b n : Nat} {F : Nat → Value} (h : Row w b n F) (k : Nat) : Row (mkW k w) b n F := h.below (mkW_ext _ _)
theorem FlagsIn.mkW {w : World} {fb n : Nat} {F : Nat → Nat → Bool} (h : FlagsIn w fb n F) (k : Nat) : FlagsIn (mkW k w) fb n F := h.below (mkW_ext _ _)

/-- The round is laid: all its parts lie in X. -/
theorem born {X w1 : World} {K fb gb gc ab ac sl rl bx n : Nat} {p0 p1 p2 p3 : Int} {F : Nat → Nat → Bool} (hK : K = X.heap.size) (hF : FlagsIn X fb n F) (hG : Mat X gb gc n (fun _ => 0)) (hA : Mat X ab ac n (fun _ => 0))
    (hL : Row X sl n (fun _ => .int .u64 0)) (hR : Row X rl n (fun _ => .int .u64 0))
    (d1 : gc ≠ ab ∧ gc ≠ ac ∧ gc ≠ sl ∧ gc ≠ rl ∧ (gc < fb ∨ fb + n < gc)) (d2 : ac ≠ gb ∧ ac ≠ sl ∧ ac ≠ rl ∧ (ac < fb ∨ fb + n < ac))
    (d3 : sl ≠ gb ∧ sl ≠ ab ∧ sl ≠ rl ∧ (sl < fb ∨ fb + n < sl)) (d4 : rl ≠ gb ∧ rl ≠ ab ∧ (rl < fb ∨ fb + n < rl)) (d5 : bx ≤ gc ∧ bx ≤ ac ∧ bx < sl ∧ bx < rl) (hB : Below (bx + 1) w1 X) (hX : bx + 1 ≤ X.heap.size) :
    ∃ sb b, Value.pointer (some ⟨K, 0, none⟩) = Value.pointer (some ⟨sb, 0, none⟩) ∧
      Rnd (X.alloc (.cells #[.int .u64 p0, .int .u64 p1, .int .u64 p2, .int .u64 p3, .slice (some ⟨fb, 0, none⟩) n n, .slice (some ⟨gb, 0, none⟩) n n, .slice (some ⟨ab, 0, none⟩) n n, .slice (some ⟨sl, 0, none⟩) n n, .slice (some ⟨rl, 0, none⟩) n n] 80))
        sb b n p0 p1 p2 p3 F (fun _ => 0) (fun _ => 0) (fun _ => 0) (fun _ => 0) ∧ bx ≤ b.gc ∧ bx ≤ b.ac ∧ bx < b.sl ∧ bx < b.rl ∧
      Below (bx + 1) w1 (X.alloc (.cells #[.int .u64 p0, .int .u64 p1, .int .u64 p2, .int .u64 p3, .slice (some ⟨fb, 0, none⟩) n n, .slice (some ⟨gb, 0, none⟩) n n, .slice (some ⟨ab, 0, none⟩) n n, .slice (some ⟨sl, 0, none⟩) n n, .slice (some ⟨rl, 0, none⟩) n n] 80)) := by
  have l1 := hG.1.lt
  have l2 := hG.2.1.lt
  have l3 := hA.1.lt
  have l4 := hA.2.1.lt
  have l5 := hL.lt
  have l6 := hR.lt
  have l7 := hG.2.2
  have l8 := hA.2.2
  obtain ⟨o, ho⟩ : ∃ o : Obj, o = .cells #[.int .u64 p0, .int .u64 p1, .int .u64 p2, .int .u64 p3, .slice (some ⟨fb, 0, none⟩) n n, .slice (some ⟨gb, 0, none⟩) n n, .slice (some ⟨ab, 0, none⟩) n n, .slice (some ⟨sl, 0, none⟩) n n, .slice (some ⟨rl, 0, none⟩) n n] 80 := ⟨_, rfl⟩
  rw [← ho]
  have e1 := heap_new X o K hK
  have e2 := (hF.alloc o).1
  have e3 := hG.alloc o
  have e4 := hA.alloc o
  have e5 := hL.alloc o
  have e6 := hR.alloc o
  have e7 := hB.alloc hX o
  have e8 : Apart (Rb.mk fb gb gc ab ac sl rl) K n := by
    obtain ⟨a1, a2, a3, a4, a5⟩ := d1
    obtain ⟨b1, b2, b3, b4⟩ := d2
    obtain ⟨c1, c2, c3, c4⟩ := d3
    obtain ⟨f1, f2, f3⟩ := d4
    have hf := hF.2
    clear e1 e2 e3 e4 e5 e6 e7 hG hA hL hR hF hB ho d5
    unfold Apart
    dsimp only
    exact ⟨⟨by omega, by omega, a1, a2, a3, a4, a5⟩, ⟨by omega, b1, by omega, b2, b3, b4⟩, ⟨by omega, c1, c2, c3, c4⟩, by omega, f1, f2, f3⟩
  generalize X.alloc o = Y at e1 e2 e3 e4 e5 e6 e7
  refine ⟨K, Rb.mk fb gb gc ab ac sl rl, rfl, Rnd.mk ?_ e2 e3 e4 e5 e6 e8, d5.1, d5.2.1, d5.2.2.1, d5.2.2.2, e7⟩
  rw [e1, ho]

theorem fill_step (p : Int) (k i : Nat) : iupd (fun i => if i < k then p else 0) k p i = if i < k + 1 then p else 0 := by
  unfold iupd
  by_cases e : i = k
  · rw [if_pos e, if_pos (by omega)]
  · rw [if_neg e]
    by_cases e2 : i < k
    · simp only [if_pos e2]; rw [if_pos (by omega)]
    · simp only [if_neg e2]; rw [if_neg (by omega)]

set_option maxHeartbeats 40000000 in
theorem newRound_any (n m c : Nat) (hn : n ≤ 64) (hm : m ≤ 4096) (a : Option Addr) (S R : Nat → Int) (p0 p1 p2 p3 : Int) (w : World) (hL : 0 < m → ∃ lb, a = some ⟨lb, 0, none⟩ ∧ Links w lb m S R)
    (hS : ∀ i, i < m → 0 ≤ S i ∧ S i < n) (hR : ∀ i, i < m → 0 ≤ R i ∧ R i < n) :
    Calls Try.prog 49 #[.int .i64 n, .agg #[.int .u64 p0, .int .u64 p1, .int .u64 p2, .int .u64 p3, .slice a m c, .slice none 0 0, .int .u8 0, .int .u8 0, .int .u8 0, .int .u8 0, .int .u8 0, .int .u8 0, .int .u8 0, .int .u8 0, .int .u8 0, .int .u8 0, .int .u8 0, .int .u8 0, .int .u8 0, .int .u8 0, .int .u8 0, .int .u8 0, .int .u8 0, .int .u8 0, .int .u8 0, .int .u8 0, .int .u8 0, .int .u8 0, .int .u8 0, .int .u8 0, .int .u8 0, .int .u8 0, .int .u8 0, .int .u8 0, .int .u8 0, .int .u8 0, .int .u8 0, .int .u8 0, .bool false]] w fun e w' => ∃ sb, e = .returned (.pointer (some ⟨sb, 0, none⟩)) ∧
      ∃ b, Rnd w' sb b n p0 p1 p2 p3 (fun i j => named S R i j m) (fun _ => 0) (fun _ => 0) (fun _ => p0) (fun _ => p0) ∧ w.heap.size ≤ b.gc ∧ w.heap.size ≤ b.ac ∧ Below w.heap.size w w' := by
  obtain ⟨w1, hw1⟩ : ∃ w1, w1 = w.alloc (.cells #[.int .u64 p0, .int .u64 p1, .int .u64 p2, .int .u64 p3, .slice a m c, .slice none 0 0, .int .u8 0, .int .u8 0, .int .u8 0, .int .u8 0, .int .u8 0, .int .u8 0, .int .u8 0, .int .u8 0, .int .u8 0, .int .u8 0, .int .u8 0, .int .u8 0, .int .u8 0, .int .u8 0, .int .u8 0, .int .u8 0, .int .u8 0, .int .u8 0, .int .u8 0, .int .u8 0, .int .u8 0, .int .u8 0, .int .u8 0, .int .u8 0, .int .u8 0, .int .u8 0, .int .u8 0, .int .u8 0, .int .u8 0, .int .u8 0, .int .u8 0, .int .u8 0, .bool false] 55) := ⟨_, rfl⟩
  have HW : Hid (w1 = w.alloc (.cells #[.int .u64 p0, .int .u64 p1, .int .u64 p2, .int .u64 p3, .slice a m c, .slice none 0 0, .int .u8 0, .int .u8 0, .int .u8 0, .int .u8 0, .int .u8 0, .int .u8 0, .int .u8 0, .int .u8 0, .int .u8 0, .int .u8 0, .int .u8 0, .int .u8 0, .int .u8 0, .int .u8 0, .int .u8 0, .int .u8 0, .int .u8 0, .int .u8 0, .int .u8 0, .int .u8 0, .int .u8 0, .int .u8 0, .int .u8 0, .int .u8 0, .int .u8 0, .int .u8 0, .int .u8 0, .int .u8 0, .int .u8 0, .int .u8 0, .int .u8 0, .int .u8 0, .bool false] 55)) := hw1
  have B1 : Below w.heap.size w w1 := by rw [hw1]; exact (Below.refl _ _).alloc (Nat.le_refl _) _
  have s1 : w1.heap.size = w.heap.size + 1 := by rw [hw1]; simp
  obtain ⟨bx, hbx⟩ : ∃ bx, bx = w.heap.size := ⟨_, rfl⟩
  have c0 : w1.cell? ⟨bx, 0, none⟩ = some (.int .u64 p0) := by rw [hw1, hbx]; simp
  have c1 : w1.cell? ⟨bx, 1, none⟩ = some (.int .u64 p1) := by rw [hw1, hbx]; simp
  have c2 : w1.cell? ⟨bx, 2, none⟩ = some (.int .u64 p2) := by rw [hw1, hbx]; simp
  have c3 : w1.cell? ⟨bx, 3, none⟩ = some (.int .u64 p3) := by rw [hw1, hbx]; simp
  have c4 : w1.cell? ⟨bx, 4, none⟩ = some (.slice a m c) := by rw [hw1, hbx]; simp
  have q0 : ∀ w', Below (bx + 1) w1 w' → w'.cell? ⟨bx, 0, none⟩ = some (.int .u64 p0) := fun w' h => (h.cell (p := ⟨bx, 0, none⟩) (by simp)).trans c0
  have q1 : ∀ w', Below (bx + 1) w1 w' → w'.cell? ⟨bx, 1, none⟩ = some (.int .u64 p1) := fun w' h => (h.cell (p := ⟨bx, 1, none⟩) (by simp)).trans c1
  have q2 : ∀ w', Below (bx + 1) w1 w' → w'.cell? ⟨bx, 2, none⟩ = some (.int .u64 p2) := fun w' h => (h.cell (p := ⟨bx, 2, none⟩) (by simp)).trans c2
  have q3 : ∀ w', Below (bx + 1) w1 w' → w'.cell? ⟨bx, 3, none⟩ = some (.int .u64 p3) := fun w' h => (h.cell (p := ⟨bx, 3, none⟩) (by simp)).trans c3
  have q4 : ∀ w', Below (bx + 1) w1 w' → w'.cell? ⟨bx, 4, none⟩ = some (.slice a m c) := fun w' h => (h.cell (p := ⟨bx, 4, none⟩) (by simp)).trans c4
  have HS1 : Hid (w1.heap.size = bx + 1) := by show w1.heap.size = bx + 1; rw [s1, hbx]
  have hmk := run_mkW n hn
  have HLW : Hid (∀ W, Below (bx + 1) w1 W → 0 < m → ∃ lb, a = some ⟨lb, 0, none⟩ ∧ Links W lb m S R) := by
    intro W hW hm0
    obtain ⟨lb, e1, e2⟩ := hL hm0
    have h1 := e2.lt
    exact ⟨lb, e1, (e2.below B1 h1).below hW (by omega)⟩
  clear hL
  clear c0 c1 c2 c3 c4 s1 hw1
  go_enter Try.func49, Try.ntmps49
  go_wp2
  rw [← HW.out, ← hbx]
  have HBX : Hid (bx = w.heap.size) := hbx
  clear hbx
  go_cut [5] from 7 (fun v wc => ∃ sb b, v = .pointer (some ⟨sb, 0, none⟩) ∧ Rnd wc sb b n p0 p1 p2 p3 (fun i j => named S R i j m) (fun _ => 0) (fun _ => 0) (fun _ => 0) (fun _ => 0) ∧ bx ≤ b.gc ∧ bx ≤ b.ac ∧ bx < b.sl ∧ bx < b.rl ∧ Below (bx + 1) w1 wc)
  case first =>
    go_region_held3 (fun w' => Below (bx + 1) w1 w')
      (first | exact (Below.refl _ _).drew | exact keepc (by assumption) (by assumption) (by assumption) | exact keepc (by assumption) (by assumption) (mkW_ext _ _) | exact keepa (by assumption) (by assumption) _)
      (first
        | (go_at_call 54; refine (forbidden_any n m c hn hm a S R _ ?_ hS hR).mono ?_; exact HLW.out _ (by assumption); rintro e w2 ⟨fb, rfl, hF, hfb1, hfb2, hbF⟩)
        | (go_at_call 55; (guard_hyp hM1); refine (newMatrix_any n hn _).mono ?_; rintro e w4 ⟨rb2, rfl, cb2, hM2, hrb2, hcb2, hbM2⟩)
        | (go_at_call 55; refine (newMatrix_any n hn _).mono ?_; rintro e w3 ⟨rb1, rfl, cb1, hM1, hrb1, hcb1, hbM1⟩))
    all_goals go_wp2
    all_goals go_meet
    all_goals (clear q0 q1 q2 q3 q4 hmk HW HLW hS hR B1)
    all_goals
      have hFI : FlagsIn w2 fb n (fun i j => named S R i j m) := ⟨hF, hfb2⟩
      have z1 := hM1.1.lt
      have z2 := hM1.2.1.lt
      have z3 := hM2.1.lt
      have z4 := hM2.2.1.lt
      have z5 := hbF.size
      have z6 := hbM1.size
      have z7 := hbM2.size
      have z8 := HS1.out
      have z9 := hM1.2.2
      have z10 := hM2.2.2
      clear hF
      try simp only [mkW_size, size_drew] at z5
      try simp only [mkW_size, size_drew] at z6
      try simp only [mkW_size, size_drew] at z7
      try simp only [mkW_size, size_drew] at hfb1
      try simp only [mkW_size, size_drew] at hrb1
      try simp only [mkW_size, size_drew] at hcb1
      try simp only [mkW_size, size_drew] at hrb2
      try simp only [mkW_size, size_drew] at hcb2
      refine born (gc := cb1) (ac := cb2) rfl ?_ ?_ ?_ ?_ ?_ ?_ ?_ ?_ ?_ ?_ ?_ ?_
      · repeat (with_reducible first | assumption | refine FlagsIn.mkW ?_ _ | refine FlagsIn.below ?_ (by assumption))
      · repeat (with_reducible first | assumption | refine Mat.mkW ?_ _ | refine Mat.below ?_ (by assumption))
      · repeat (with_reducible first | assumption | refine Mat.mkW ?_ _ | refine Mat.below ?_ (by assumption))
      · repeat (first | with_reducible exact mkW_row _ _ | with_reducible exact mkW_row' _ _ | with_reducible refine Row.mkW ?_ _ | with_reducible refine Row.drew ?_ | with_reducible refine Row.below ?_ (by assumption))
      · repeat (first | with_reducible exact mkW_row _ _ | with_reducible exact mkW_row' _ _ | with_reducible refine Row.mkW ?_ _ | with_reducible refine Row.drew ?_ | with_reducible refine Row.below ?_ (by assumption))
      · try simp only [mkW_size, size_drew]
        omega
      · try simp only [mkW_size, size_drew]
        omega
      · try simp only [mkW_size, size_drew]
        omega
      · try simp only [mkW_size, size_drew]
        omega
      · try simp only [mkW_size, size_drew]
        omega
      · repeat (first | with_reducible exact (Below.refl _ _).drew | with_reducible refine keepc (by assumption) ?_ (mkW_ext _ _) | with_reducible refine keepc (by assumption) ?_ (by assumption))
      · try simp only [mkW_size, size_drew]
        omega
  case rest =>
    obtain ⟨sb, b, rfl, hr, b1, b2, b3, b4, hB⟩ := hcut
    have cx : wc.cell? ⟨bx, 0, none⟩ = some (.int .u64 p0) := q0 wc hB
    have HB0 : Hid (Below bx w wc) := by
      show Below bx w wc
      rw [HBX.out]
      exact B1.trans (hB.mono (by have := HBX.out; omega))
    clear q0 q1 q2 q3 q4 hmk HW HLW hS hR B1 hB
    go_wp2
    go_loopw [24] (fun v wr => ∃ k : Nat, k ≤ n ∧ v = .int .i64 k ∧ Rnd wr sb b n p0 p1 p2 p3 (fun i j => named S R i j m) (fun _ => 0) (fun _ => 0) (fun i => if i < k then p0 else 0) (fun i => if i < k then p0 else 0) ∧ wr.cell? ⟨bx, 0, none⟩ = some (.int .u64 p0) ∧ Below bx w wr) (fun v _ => n - (intOf v).toNat)
    case atStart => exact ⟨0, by omega, rfl, hr.congrL (by simp) (by simp), cx, HB0.out⟩
    case round =>
      clear hr cx
      obtain ⟨k, hk, rfl, hr, cx, hB⟩ := hrel
      by_cases hlt : k < n
      · have d1 := hr.cL
        have d3 := hr.send.cell hlt
        have d4 := hr.send.frozen k
        obtain ⟨V, hV⟩ : ∃ V, V = wr.setCell ⟨b.sl, k, none⟩ (.int .u64 p0) := ⟨_, rfl⟩
        have hr2 := hr.setL k p0
        have cx2 : (wr.setCell ⟨b.sl, k, none⟩ (.int .u64 p0)).cell? ⟨bx, 0, none⟩ = some (.int .u64 p0) :=
          (World.cell?_of_block (w := wr) (Below.heap_setCell wr ⟨b.sl, k, none⟩ _ bx (show bx ≠ b.sl by omega))).trans cx
        have hB2 := hB.setCell (p := ⟨b.sl, k, none⟩) (show bx ≤ b.sl by omega) (.int .u64 p0)
        rw [← hV] at hr2 cx2 hB2
        have e2 := hr2.cR
        have e5 := hr2.recv.cell hlt
        have e6 := hr2.recv.frozen k
        have hr3 := hr2.setR k p0
        have cx3 : (V.setCell ⟨b.rl, k, none⟩ (.int .u64 p0)).cell? ⟨bx, 0, none⟩ = some (.int .u64 p0) :=
          (World.cell?_of_block (w := V) (Below.heap_setCell V ⟨b.rl, k, none⟩ _ bx (show bx ≠ b.rl by omega))).trans cx2
        have hB3 := hB2.setCell (p := ⟨b.rl, k, none⟩) (show bx ≤ b.rl by omega) (.int .u64 p0)
        have hr4 : Rnd (V.setCell ⟨b.rl, k, none⟩ (.int .u64 p0)) sb b n p0 p1 p2 p3 (fun i j => named S R i j m) (fun _ => 0) (fun _ => 0) (fun i => if i < k + 1 then p0 else 0) (fun i => if i < k + 1 then p0 else 0) :=
          hr3.congrL (fun i _ => fill_step p0 k i) (fun i _ => fill_step p0 k i)
        have HR : Hid _ := And.intro hr4 (And.intro cx3 hB3)
        have HV : Hid (V = wr.setCell ⟨b.sl, k, none⟩ (.int .u64 p0)) := hV
        clear hV hr hr2 hr3 hr4 cx3 hB hB2 hB3
        go_wp2
        go_region
        all_goals (try go_wp2)
        rw [← HV.out]
        go_region
        all_goals (try go_wp2)
        go_roundw
        case rel => exact ⟨k + 1, by omega, by go_num, HR.out.1.drew.drew, HR.out.2.1, HR.out.2.2.drew.drew⟩
        case measure => simp [intOf]; omega
      · go_wp2
        go_ret
        exact ⟨sb, rfl, b, hr.congrL (fun i hi => by rw [if_pos (by omega)]) (fun i hi => by rw [if_pos (by omega)]), by rw [← HBX.out]; exact b1, by rw [← HBX.out]; exact b2, by rw [← HBX.out]; exact hB⟩
end Go.Proofs.Qxb6003691a
