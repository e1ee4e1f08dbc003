import Derived.Test.Qxb6003691aBase
import Derived.Deep.OwnRows
namespace Go.Proofs.Qxb6003691a
open Go.RowKit
set_option linter.unusedVariables false

/-- Block b begins with the n cells F; no cell of it is frozen. -/
def Row (w : World) (b n : Nat) (F : Nat → Value) : Prop :=
  ∃ (t : TypeId) (c : Array Value), w.heap[b]? = some (.cells c t (0, 0)) ∧ n ≤ c.size ∧ ∀ i, i < n → c[i]? = some (F i)

/-- F, at i turned to v. -/
def vupd (F : Nat → Value) (i : Nat) (v : Value) : Nat → Value := fun j => if j = i then v else F j

namespace Row
variable {w w' : World} {b n : Nat} {F G : Nat → Value}
theorem cell (h : Row w b n F) {i : Nat} (hi : i < n) : w.cell? ⟨b, i, none⟩ = some (F i) := by
  obtain ⟨t, c, hc, _, hv⟩ := h
  simp only [World.cell?, hc]; simpa using hv i hi
theorem frozen (h : Row w b n F) (o : Nat) : w.frozen? ⟨b, o, none⟩ = false := by
  obtain ⟨t, c, hc, _, _⟩ := h
  simp [World.frozen?, hc]
theorem lt (h : Row w b n F) : b < w.heap.size := by
  obtain ⟨t, c, hc, _, _⟩ := h
  exact (Array.getElem?_eq_some_iff.1 hc).1
theorem of_block (h : Row w b n F) (e : w'.heap[b]? = w.heap[b]?) : Row w' b n F := by
  obtain ⟨t, c, hc, r⟩ := h
  exact ⟨t, c, e.trans hc, r⟩
theorem below (h : Row w b n F) (k : Below w.heap.size w w') : Row w' b n F := h.of_block (k.block _ h.lt)
theorem keep {S : Nat → Prop} (h : Row w b n F) (k : Keep S w w') (hS : ¬ S b) : Row w' b n F := h.of_block (k.block _ h.lt hS)
theorem alloc (h : Row w b n F) (o : Obj) : Row (w.alloc o) b n F := h.below ((Below.refl _ _).alloc (Nat.le_refl _) _)
theorem drew (h : Row w b n F) : Row w.drew b n F := h
theorem less {m : Nat} (h : Row w b n F) (hm : m ≤ n) : Row w b m F := by
  obtain ⟨t, c, hc, hs, hv⟩ := h
  exact ⟨t, c, hc, by omega, fun i hi => hv i (by omega)⟩
theorem congr (h : Row w b n F) (e : ∀ i, i < n → F i = G i) : Row w b n G := by
  obtain ⟨t, c, hc, hs, hv⟩ := h
  exact ⟨t, c, hc, hs, fun i hi => by rw [← e i hi]; exact hv i hi⟩
theorem set (h : Row w b n F) (i : Nat) (v : Value) : Row (w.setCell ⟨b, i, none⟩ v) b n (vupd F i v) := by
  obtain ⟨t, c, hc, hs, hv⟩ := h
  refine ⟨t, c.setIfInBounds i v, ?_, by simpa using hs, fun j hj => ?_⟩
  · simp [World.setCell, Array.getElem?_modify, hc]
  · by_cases e : j = i
    · subst e
      rw [Array.getElem?_setIfInBounds_self_of_lt (by omega)]; simp [vupd]
    · rw [Array.getElem?_setIfInBounds_ne (by omega)]; simp only [vupd, if_neg e]; exact hv j hj
theorem setOther (h : Row w b n F) {a : Addr} (ha : b ≠ a.block) (v : Value) : Row (w.setCell a v) b n F := h.of_block (Below.heap_setCell _ _ _ _ ha)
theorem made (w : World) (z : Value) (n : Nat) (t : TypeId) : Row (w.alloc (.cells (madeCells #[z] n) t)) w.heap.size n (fun _ => z) :=
  ⟨t, madeCells #[z] n, by show (w.heap.push _)[_]? = _; simp, by rw [size_madeCells]; exact Nat.le_refl _, fun i hi => by simp [madeCells, hi, Nat.mod_one]⟩
end Row

theorem Heap.setOther {w : World} {hb n : Nat} {f : Nat → Int × Int} (h : Heap w hb n f) {a : Addr} (ha : hb ≠ a.block) (v : Value) : Heap (w.setCell a v) hb n f := h.of_block (Below.heap_setCell _ _ _ _ ha)

theorem Heap.made (w : World) (n : Nat) : Heap (w.alloc (.cells (madeCells #[.int .u64 0, .int .u32 0] (n * 2)) 72)) w.heap.size n (fun _ => (0, 0)) := by
  refine ⟨madeCells #[.int .u64 0, .int .u32 0] (n * 2), by show (w.heap.push _)[_]? = _; simp, by rw [size_madeCells]; exact Nat.le_refl _, fun i hi => ⟨?_, ?_⟩⟩
  · have h1 : i * 2 < n * 2 := by omega
    simp [madeCells, h1]
  · have h1 : i * 2 + 1 < n * 2 := by omega
    have h2 : (i * 2 + 1) % 2 = 1 := by omega
    simp [madeCells, h1, h2]

/-- A slice of the call's own (from block B on), or nil. -/
def Own (B : Nat) (w : World) (a : Option Addr) (n : Nat) (F : Nat → Value) : Prop :=
  (a = none ∧ n = 0) ∨ ∃ b, B ≤ b ∧ a = some ⟨b, 0, none⟩ ∧ Row w b n F

/-- What can be read of a slice. -/
def Src (w : World) (a : Option Addr) (n : Nat) (F : Nat → Value) : Prop :=
  (a = none → n = 0) ∧ (0 < n → ∃ b o, a = some ⟨b, o, none⟩ ∧ b < w.heap.size ∧ ∀ i, i < n → w.cell? ⟨b, o + i, none⟩ = some (F i))

theorem lt_of_cell {w : World} {a : Addr} {v : Value} (h : w.cell? a = some v) : a.block < w.heap.size := by
  cases hb : w.heap[a.block]? with
  | none => simp [World.cell?, hb] at h
  | some o => exact (Array.getElem?_eq_some_iff.1 hb).1

theorem Own.src {B : Nat} {w : World} {a : Option Addr} {n : Nat} {F : Nat → Value} (h : Own B w a n F) : Src w a n F := by
  rcases h with ⟨rfl, rfl⟩ | ⟨b, _, rfl, hr⟩
  · exact ⟨fun _ => rfl, fun h => absurd h (by omega)⟩
  · exact ⟨fun h => (by cases h), fun _ => ⟨b, 0, rfl, hr.lt, fun i hi => by simpa using hr.cell hi⟩⟩

/-- make([]T, n) at this program: whatever the world. -/
theorem make_any (t e : TypeId) (zs : Array Value) (size bytes : Nat) (ht : Try.prog.underlying t = some (.slice e))
    (hinfo : (Try.prog.info? e).map (fun i => (i.zero.map Value.cells, i.size, i.bytes)) = some (some zs, size, bytes))
    (n : Nat) (hb : bytes * n ≤ 281474976710656) (hn : n ≤ 9223372036854775807) (w : World) :
    (Instr.makeSlice t (.int .i64 (n : Int)) (.int .i64 (n : Int))).run Try.prog w = .ok (.slice (some ⟨w.heap.size, 0, none⟩) n n) (w.alloc (.cells (madeCells zs (n * size)) e)) := by
  obtain ⟨i, hi, hzz⟩ := Option.map_eq_some_iff.1 hinfo
  simp only [Prod.mk.injEq] at hzz
  obtain ⟨hz, hs, hby⟩ := hzz
  obtain ⟨z, hz1, hz2⟩ := Option.map_eq_some_iff.1 hz
  have hb' : (i.bytes : Int) * (n : Int) ≤ 281474976710656 := by
    have h : ((i.bytes * n : Nat) : Int) ≤ 281474976710656 := by rw [hby]; omega
    rwa [Int.natCast_mul] at h
  have hr := run_make (P := Try.prog) w t e i z ht hi hz1 .i64 .i64 n n (by omega) (Int.le_refl _) hb' (by omega)
  simp only [Int.toNat_natCast, hs, hz2] at hr
  exact hr

theorem make_u64 (n : Nat) (hn : n ≤ 1048576) (w : World) :
    (Instr.makeSlice 22 (.int .i64 (n : Int)) (.int .i64 (n : Int))).run Try.prog w = .ok (.slice (some ⟨w.heap.size, 0, none⟩) n n) (w.alloc (.cells (madeCells #[.int .u64 0] n) 36)) := by
  have := make_any 22 36 #[.int .u64 0] 1 8 Try.underlying22 (by kernel_rfl) n (by omega) (by omega) w
  rwa [Nat.mul_one] at this
theorem make_u32 (n : Nat) (hn : n ≤ 1048576) (w : World) :
    (Instr.makeSlice 23 (.int .i64 (n : Int)) (.int .i64 (n : Int))).run Try.prog w = .ok (.slice (some ⟨w.heap.size, 0, none⟩) n n) (w.alloc (.cells (madeCells #[.int .u32 0] n) 38)) := by
  have := make_any 23 38 #[.int .u32 0] 1 4 Try.underlying23 (by kernel_rfl) n (by omega) (by omega) w
  rwa [Nat.mul_one] at this
theorem make_bool (n : Nat) (hn : n ≤ 1048576) (w : World) :
    (Instr.makeSlice 33 (.int .i64 (n : Int)) (.int .i64 (n : Int))).run Try.prog w = .ok (.slice (some ⟨w.heap.size, 0, none⟩) n n) (w.alloc (.cells (madeCells #[.bool false] n) 4)) := by
  have := make_any 33 4 #[.bool false] 1 1 Try.underlying33 (by kernel_rfl) n (by omega) (by omega) w
  rwa [Nat.mul_one] at this
theorem make_int (n : Nat) (hn : n ≤ 1048576) (w : World) :
    (Instr.makeSlice 43 (.int .i64 (n : Int)) (.int .i64 (n : Int))).run Try.prog w = .ok (.slice (some ⟨w.heap.size, 0, none⟩) n n) (w.alloc (.cells (madeCells #[.int .i64 0] n) 3)) := by
  have := make_any 43 3 #[.int .i64 0] 1 8 Try.underlying43 (by kernel_rfl) n (by omega) (by omega) w
  rwa [Nat.mul_one] at this
theorem make_queued (n : Nat) (hn : n ≤ 1048576) (w : World) :
    (Instr.makeSlice 70 (.int .i64 (n : Int)) (.int .i64 (n : Int))).run Try.prog w = .ok (.slice (some ⟨w.heap.size, 0, none⟩) n n) (w.alloc (.cells (madeCells #[.int .u64 0, .int .u32 0] (n * 2)) 72)) :=
  make_any 70 72 #[.int .u64 0, .int .u32 0] 2 16 Try.underlying70 (by kernel_rfl) n (by omega) (by omega) w

theorem eqnil (t e : TypeId) (ht : Try.prog.underlying t = some (.slice e)) (a : Option Addr) (n c : Nat) (w : World) :
    (binOp .eql t (.slice a n c) (.slice none 0 0)).run Try.prog w = .ok (.bool a.isNone) w :=
  Go.Lib.run_eql_slice_nil w t e a n c 0 0 ht

/-! The relation of a copying loop: the first k cells are copied. -/
def Part (F : Nat → Value) (z : Value) (k : Nat) : Nat → Value := fun j => if j < k then F j else z
theorem Part.zero (F : Nat → Value) (z : Value) (i : Nat) : (fun _ => z) i = Part F z 0 i := by simp [Part]
theorem Part.step (F : Nat → Value) (z : Value) (k i : Nat) : vupd (Part F z k) k (F k) i = Part F z (k + 1) i := by
  unfold vupd Part
  by_cases h : i = k
  · subst h; simp
  · by_cases h1 : i < k
    · rw [if_neg h, if_pos h1, if_pos (by omega)]
    · rw [if_neg h, if_neg h1, if_neg (by omega)]
theorem Part.all (F : Nat → Value) (z : Value) (n i : Nat) (h : i < n) : Part F z n i = F i := by simp [Part, h]

set_option maxHeartbeats 1000000 in
theorem copy38 (a : Option Addr) (n cap : Nat) (g : Nat → Int) (w : World) (hs : Src w a n (fun i => .int .u64 (g i))) (hn : n ≤ 1048576) :
    Calls Try.prog 38 #[.slice a n cap] w fun e w' => ∃ a', e = .returned (.slice a' n n) ∧ Own w.heap.size w' a' n (fun i => .int .u64 (g i)) ∧ (a' = none ↔ a = none) ∧ Below w.heap.size w w' := by
  obtain ⟨h1, h2⟩ := hs
  have hmk := make_u64 n hn
  have heq := eqnil 22 36 Try.underlying22
  cases a with
  | none =>
    have h0 := h1 rfl
    clear h1 h2
    go_enter Try.func38, Try.ntmps38
    go_wp2
    go_ret
    exact ⟨none, by rw [h0]; rfl, .inl ⟨rfl, h0⟩, by simp, Below.refl _ _⟩
  | some x =>
    clear h1
    obtain ⟨w1, hw1⟩ : ∃ w1, w1 = w.alloc (.cells (madeCells #[.int .u64 0] n) 36) := ⟨_, rfl⟩
    have R0 : Row w1 w.heap.size n (fun _ => .int .u64 0) := by rw [hw1]; exact Row.made _ _ _ _
    have B0 : Below w.heap.size w w1 := by rw [hw1]; exact (Below.refl _ _).alloc (Nat.le_refl _) _
    have HW : Hid (w1 = w.alloc (.cells (madeCells #[.int .u64 0] n) 36)) := hw1
    clear hw1
    rcases Nat.eq_zero_or_pos n with h0 | h0
    · have h0' : n ≤ 0 := by omega
      clear h0 h2
      go_enter Try.func38, Try.ntmps38
      go_wp2
      rw [← HW.out]
      go_loopw [4] (fun v wr => v = .int .i64 0 ∧ wr = w1) (fun _ _ => 0)
      case atStart => exact ⟨rfl, rfl⟩
      case round =>
        obtain ⟨rfl, rfl⟩ := hrel
        go_wp2
        go_ret
        exact ⟨_, rfl, .inr ⟨_, Nat.le_refl _, rfl, R0.congr (fun i hi => absurd hi (by omega))⟩, by simp, B0⟩
    · obtain ⟨b, o, hx, hb, hc⟩ := h2 h0
      obtain rfl : x = ⟨b, o, none⟩ := by simpa using hx
      clear h2 hx
      go_enter Try.func38, Try.ntmps38
      go_wp2
      rw [← HW.out]
      clear hmk heq
      go_loopw [4] (fun v wr => ∃ k : Nat, k ≤ n ∧ v = .int .i64 k ∧ Row wr w.heap.size n (Part (fun i => .int .u64 (g i)) (.int .u64 0) k) ∧ Below w.heap.size w wr) (fun v _ => n - (intOf v).toNat)
      case atStart => exact ⟨0, by omega, rfl, R0.congr (fun i _ => Part.zero (fun i => .int .u64 (g i)) _ i), B0⟩
      case round =>
        obtain ⟨k, hk, rfl, hR, hB⟩ := hrel
        by_cases hlt : k < n
        · have c1 : wr.cell? ⟨b, o + k, none⟩ = some (.int .u64 (g k)) := (hB.cell (p := ⟨b, o + k, none⟩) hb).trans (hc k hlt)
          have c2 := hR.cell (i := k) hlt
          have c3 := hR.frozen k
          have HR : Hid (Row (wr.setCell ⟨w.heap.size, k, none⟩ (.int .u64 (g k))) w.heap.size n (Part (fun i => .int .u64 (g i)) (.int .u64 0) (k + 1)) ∧ Below w.heap.size w (wr.setCell ⟨w.heap.size, k, none⟩ (.int .u64 (g k)))) :=
            ⟨(hR.set k (.int .u64 (g k))).congr (fun i _ => Part.step (fun i => .int .u64 (g i)) _ k i), hB.setCell (Nat.le_refl _) _⟩
          clear hR hB hc
          go_wp2
          go_roundw
          case rel => exact ⟨k + 1, by omega, by go_num, HR.out.1, HR.out.2⟩
          case measure => simp [intOf]; omega
        · clear hc
          go_wp2
          go_ret
          exact ⟨_, rfl, .inr ⟨_, Nat.le_refl _, rfl, hR.congr (fun i hi => by rw [show k = n by omega]; exact Part.all (fun i => .int .u64 (g i)) _ n i hi)⟩, by simp, hB⟩

set_option maxHeartbeats 1000000 in
theorem copy39 (a : Option Addr) (n cap : Nat) (g : Nat → Int) (w : World) (hs : Src w a n (fun i => .int .u32 (g i))) (hn : n ≤ 1048576) :
    Calls Try.prog 39 #[.slice a n cap] w fun e w' => ∃ a', e = .returned (.slice a' n n) ∧ Own w.heap.size w' a' n (fun i => .int .u32 (g i)) ∧ (a' = none ↔ a = none) ∧ Below w.heap.size w w' := by
  obtain ⟨h1, h2⟩ := hs
  have hmk := make_u32 n hn
  have heq := eqnil 23 38 Try.underlying23
  cases a with
  | none =>
    have h0 := h1 rfl
    clear h1 h2
    go_enter Try.func39, Try.ntmps39
    go_wp2
    go_ret
    exact ⟨none, by rw [h0]; rfl, .inl ⟨rfl, h0⟩, by simp, Below.refl _ _⟩
  | some x =>
    clear h1
    obtain ⟨w1, hw1⟩ : ∃ w1, w1 = w.alloc (.cells (madeCells #[.int .u32 0] n) 38) := ⟨_, rfl⟩
    have R0 : Row w1 w.heap.size n (fun _ => .int .u32 0) := by rw [hw1]; exact Row.made _ _ _ _
    have B0 : Below w.heap.size w w1 := by rw [hw1]; exact (Below.refl _ _).alloc (Nat.le_refl _) _
    have HW : Hid (w1 = w.alloc (.cells (madeCells #[.int .u32 0] n) 38)) := hw1
    clear hw1
    rcases Nat.eq_zero_or_pos n with h0 | h0
    · have h0' : n ≤ 0 := by omega
      clear h0 h2
      go_enter Try.func39, Try.ntmps39
      go_wp2
      rw [← HW.out]
      go_loopw [4] (fun v wr => v = .int .i64 0 ∧ wr = w1) (fun _ _ => 0)
      case atStart => exact ⟨rfl, rfl⟩
      case round =>
        obtain ⟨rfl, rfl⟩ := hrel
        go_wp2
        go_ret
        exact ⟨_, rfl, .inr ⟨_, Nat.le_refl _, rfl, R0.congr (fun i hi => absurd hi (by omega))⟩, by simp, B0⟩
    · obtain ⟨b, o, hx, hb, hc⟩ := h2 h0
      obtain rfl : x = ⟨b, o, none⟩ := by simpa using hx
      clear h2 hx
      go_enter Try.func39, Try.ntmps39
      go_wp2
      rw [← HW.out]
      clear hmk heq
      go_loopw [4] (fun v wr => ∃ k : Nat, k ≤ n ∧ v = .int .i64 k ∧ Row wr w.heap.size n (Part (fun i => .int .u32 (g i)) (.int .u32 0) k) ∧ Below w.heap.size w wr) (fun v _ => n - (intOf v).toNat)
      case atStart => exact ⟨0, by omega, rfl, R0.congr (fun i _ => Part.zero (fun i => .int .u32 (g i)) _ i), B0⟩
      case round =>
        obtain ⟨k, hk, rfl, hR, hB⟩ := hrel
        by_cases hlt : k < n
        · have c1 : wr.cell? ⟨b, o + k, none⟩ = some (.int .u32 (g k)) := (hB.cell (p := ⟨b, o + k, none⟩) hb).trans (hc k hlt)
          have c2 := hR.cell (i := k) hlt
          have c3 := hR.frozen k
          have HR : Hid (Row (wr.setCell ⟨w.heap.size, k, none⟩ (.int .u32 (g k))) w.heap.size n (Part (fun i => .int .u32 (g i)) (.int .u32 0) (k + 1)) ∧ Below w.heap.size w (wr.setCell ⟨w.heap.size, k, none⟩ (.int .u32 (g k)))) :=
            ⟨(hR.set k (.int .u32 (g k))).congr (fun i _ => Part.step (fun i => .int .u32 (g i)) _ k i), hB.setCell (Nat.le_refl _) _⟩
          clear hR hB hc
          go_wp2
          go_roundw
          case rel => exact ⟨k + 1, by omega, by go_num, HR.out.1, HR.out.2⟩
          case measure => simp [intOf]; omega
        · clear hc
          go_wp2
          go_ret
          exact ⟨_, rfl, .inr ⟨_, Nat.le_refl _, rfl, hR.congr (fun i hi => by rw [show k = n by omega]; exact Part.all (fun i => .int .u32 (g i)) _ n i hi)⟩, by simp, hB⟩

set_option maxHeartbeats 1000000 in
theorem copy8 (a : Option Addr) (n cap : Nat) (g : Nat → Int) (w : World) (hs : Src w a n (fun i => .int .u64 (g i))) (hn : n ≤ 1048576) :
    Calls Try.prog 8 #[.slice a n cap] w fun e w' => ∃ a', e = .returned (.slice a' n n) ∧ Own w.heap.size w' a' n (fun i => .int .u64 (g i)) ∧ (a' = none ↔ a = none) ∧ Below w.heap.size w w' := by
  obtain ⟨h1, h2⟩ := hs
  have hmk := make_u64 n hn
  have heq := eqnil 22 36 Try.underlying22
  cases a with
  | none =>
    have h0 := h1 rfl
    clear h1 h2
    go_enter Try.func8, Try.ntmps8
    go_wp2
    go_ret
    exact ⟨none, by rw [h0]; rfl, .inl ⟨rfl, h0⟩, by simp, Below.refl _ _⟩
  | some x =>
    clear h1
    obtain ⟨w1, hw1⟩ : ∃ w1, w1 = w.alloc (.cells (madeCells #[.int .u64 0] n) 36) := ⟨_, rfl⟩
    have R0 : Row w1 w.heap.size n (fun _ => .int .u64 0) := by rw [hw1]; exact Row.made _ _ _ _
    have B0 : Below w.heap.size w w1 := by rw [hw1]; exact (Below.refl _ _).alloc (Nat.le_refl _) _
    have HW : Hid (w1 = w.alloc (.cells (madeCells #[.int .u64 0] n) 36)) := hw1
    clear hw1
    rcases Nat.eq_zero_or_pos n with h0 | h0
    · have h0' : n ≤ 0 := by omega
      clear h0 h2
      go_enter Try.func8, Try.ntmps8
      go_wp2
      rw [← HW.out]
      go_loopw [4] (fun v wr => v = .int .i64 0 ∧ wr = w1) (fun _ _ => 0)
      case atStart => exact ⟨rfl, rfl⟩
      case round =>
        obtain ⟨rfl, rfl⟩ := hrel
        go_wp2
        go_ret
        exact ⟨_, rfl, .inr ⟨_, Nat.le_refl _, rfl, R0.congr (fun i hi => absurd hi (by omega))⟩, by simp, B0⟩
    · obtain ⟨b, o, hx, hb, hc⟩ := h2 h0
      obtain rfl : x = ⟨b, o, none⟩ := by simpa using hx
      clear h2 hx
      go_enter Try.func8, Try.ntmps8
      go_wp2
      rw [← HW.out]
      clear hmk heq
      go_loopw [4] (fun v wr => ∃ k : Nat, k ≤ n ∧ v = .int .i64 k ∧ Row wr w.heap.size n (Part (fun i => .int .u64 (g i)) (.int .u64 0) k) ∧ Below w.heap.size w wr) (fun v _ => n - (intOf v).toNat)
      case atStart => exact ⟨0, by omega, rfl, R0.congr (fun i _ => Part.zero (fun i => .int .u64 (g i)) _ i), B0⟩
      case round =>
        obtain ⟨k, hk, rfl, hR, hB⟩ := hrel
        by_cases hlt : k < n
        · have c1 : wr.cell? ⟨b, o + k, none⟩ = some (.int .u64 (g k)) := (hB.cell (p := ⟨b, o + k, none⟩) hb).trans (hc k hlt)
          have c2 := hR.cell (i := k) hlt
          have c3 := hR.frozen k
          have HR : Hid (Row (wr.setCell ⟨w.heap.size, k, none⟩ (.int .u64 (g k))) w.heap.size n (Part (fun i => .int .u64 (g i)) (.int .u64 0) (k + 1)) ∧ Below w.heap.size w (wr.setCell ⟨w.heap.size, k, none⟩ (.int .u64 (g k)))) :=
            ⟨(hR.set k (.int .u64 (g k))).congr (fun i _ => Part.step (fun i => .int .u64 (g i)) _ k i), hB.setCell (Nat.le_refl _) _⟩
          clear hR hB hc
          go_wp2
          go_roundw
          case rel => exact ⟨k + 1, by omega, by go_num, HR.out.1, HR.out.2⟩
          case measure => simp [intOf]; omega
        · clear hc
          go_wp2
          go_ret
          exact ⟨_, rfl, .inr ⟨_, Nat.le_refl _, rfl, hR.congr (fun i hi => by rw [show k = n by omega]; exact Part.all (fun i => .int .u64 (g i)) _ n i hi)⟩, by simp, hB⟩

set_option maxHeartbeats 1000000 in
theorem copy9 (a : Option Addr) (n cap : Nat) (g : Nat → Int) (w : World) (hs : Src w a n (fun i => .int .u32 (g i))) (hn : n ≤ 1048576) :
    Calls Try.prog 9 #[.slice a n cap] w fun e w' => ∃ a', e = .returned (.slice a' n n) ∧ Own w.heap.size w' a' n (fun i => .int .u32 (g i)) ∧ (a' = none ↔ a = none) ∧ Below w.heap.size w w' := by
  obtain ⟨h1, h2⟩ := hs
  have hmk := make_u32 n hn
  have heq := eqnil 23 38 Try.underlying23
  cases a with
  | none =>
    have h0 := h1 rfl
    clear h1 h2
    go_enter Try.func9, Try.ntmps9
    go_wp2
    go_ret
    exact ⟨none, by rw [h0]; rfl, .inl ⟨rfl, h0⟩, by simp, Below.refl _ _⟩
  | some x =>
    clear h1
    obtain ⟨w1, hw1⟩ : ∃ w1, w1 = w.alloc (.cells (madeCells #[.int .u32 0] n) 38) := ⟨_, rfl⟩
    have R0 : Row w1 w.heap.size n (fun _ => .int .u32 0) := by rw [hw1]; exact Row.made _ _ _ _
    have B0 : Below w.heap.size w w1 := by rw [hw1]; exact (Below.refl _ _).alloc (Nat.le_refl _) _
    have HW : Hid (w1 = w.alloc (.cells (madeCells #[.int .u32 0] n) 38)) := hw1
    clear hw1
    rcases Nat.eq_zero_or_pos n with h0 | h0
    · have h0' : n ≤ 0 := by omega
      clear h0 h2
      go_enter Try.func9, Try.ntmps9
      go_wp2
      rw [← HW.out]
      go_loopw [4] (fun v wr => v = .int .i64 0 ∧ wr = w1) (fun _ _ => 0)
      case atStart => exact ⟨rfl, rfl⟩
      case round =>
        obtain ⟨rfl, rfl⟩ := hrel
        go_wp2
        go_ret
        exact ⟨_, rfl, .inr ⟨_, Nat.le_refl _, rfl, R0.congr (fun i hi => absurd hi (by omega))⟩, by simp, B0⟩
    · obtain ⟨b, o, hx, hb, hc⟩ := h2 h0
      obtain rfl : x = ⟨b, o, none⟩ := by simpa using hx
      clear h2 hx
      go_enter Try.func9, Try.ntmps9
      go_wp2
      rw [← HW.out]
      clear hmk heq
      go_loopw [4] (fun v wr => ∃ k : Nat, k ≤ n ∧ v = .int .i64 k ∧ Row wr w.heap.size n (Part (fun i => .int .u32 (g i)) (.int .u32 0) k) ∧ Below w.heap.size w wr) (fun v _ => n - (intOf v).toNat)
      case atStart => exact ⟨0, by omega, rfl, R0.congr (fun i _ => Part.zero (fun i => .int .u32 (g i)) _ i), B0⟩
      case round =>
        obtain ⟨k, hk, rfl, hR, hB⟩ := hrel
        by_cases hlt : k < n
        · have c1 : wr.cell? ⟨b, o + k, none⟩ = some (.int .u32 (g k)) := (hB.cell (p := ⟨b, o + k, none⟩) hb).trans (hc k hlt)
          have c2 := hR.cell (i := k) hlt
          have c3 := hR.frozen k
          have HR : Hid (Row (wr.setCell ⟨w.heap.size, k, none⟩ (.int .u32 (g k))) w.heap.size n (Part (fun i => .int .u32 (g i)) (.int .u32 0) (k + 1)) ∧ Below w.heap.size w (wr.setCell ⟨w.heap.size, k, none⟩ (.int .u32 (g k)))) :=
            ⟨(hR.set k (.int .u32 (g k))).congr (fun i _ => Part.step (fun i => .int .u32 (g i)) _ k i), hB.setCell (Nat.le_refl _) _⟩
          clear hR hB hc
          go_wp2
          go_roundw
          case rel => exact ⟨k + 1, by omega, by go_num, HR.out.1, HR.out.2⟩
          case measure => simp [intOf]; omega
        · clear hc
          go_wp2
          go_ret
          exact ⟨_, rfl, .inr ⟨_, Nat.le_refl _, rfl, hR.congr (fun i hi => by rw [show k = n by omega]; exact Part.all (fun i => .int .u32 (g i)) _ n i hi)⟩, by simp, hB⟩

set_option maxHeartbeats 1000000 in
theorem copy26 (a : Option Addr) (n cap : Nat) (g : Nat → Int) (w : World) (hs : Src w a n (fun i => .int .i64 (g i))) (hn : n ≤ 1048576) :
    Calls Try.prog 26 #[.slice a n cap] w fun e w' => ∃ a', e = .returned (.slice a' n n) ∧ Own w.heap.size w' a' n (fun i => .int .i64 (g i)) ∧ (a' = none ↔ a = none) ∧ Below w.heap.size w w' := by
  obtain ⟨h1, h2⟩ := hs
  have hmk := make_int n hn
  have heq := eqnil 43 3 Try.underlying43
  cases a with
  | none =>
    have h0 := h1 rfl
    clear h1 h2
    go_enter Try.func26, Try.ntmps26
    go_wp2
    go_ret
    exact ⟨none, by rw [h0]; rfl, .inl ⟨rfl, h0⟩, by simp, Below.refl _ _⟩
  | some x =>
    clear h1
    obtain ⟨w1, hw1⟩ : ∃ w1, w1 = w.alloc (.cells (madeCells #[.int .i64 0] n) 3) := ⟨_, rfl⟩
    have R0 : Row w1 w.heap.size n (fun _ => .int .i64 0) := by rw [hw1]; exact Row.made _ _ _ _
    have B0 : Below w.heap.size w w1 := by rw [hw1]; exact (Below.refl _ _).alloc (Nat.le_refl _) _
    have HW : Hid (w1 = w.alloc (.cells (madeCells #[.int .i64 0] n) 3)) := hw1
    clear hw1
    rcases Nat.eq_zero_or_pos n with h0 | h0
    · have h0' : n ≤ 0 := by omega
      clear h0 h2
      go_enter Try.func26, Try.ntmps26
      go_wp2
      rw [← HW.out]
      go_loopw [4] (fun v wr => v = .int .i64 0 ∧ wr = w1) (fun _ _ => 0)
      case atStart => exact ⟨rfl, rfl⟩
      case round =>
        obtain ⟨rfl, rfl⟩ := hrel
        go_wp2
        go_ret
        exact ⟨_, rfl, .inr ⟨_, Nat.le_refl _, rfl, R0.congr (fun i hi => absurd hi (by omega))⟩, by simp, B0⟩
    · obtain ⟨b, o, hx, hb, hc⟩ := h2 h0
      obtain rfl : x = ⟨b, o, none⟩ := by simpa using hx
      clear h2 hx
      go_enter Try.func26, Try.ntmps26
      go_wp2
      rw [← HW.out]
      clear hmk heq
      go_loopw [4] (fun v wr => ∃ k : Nat, k ≤ n ∧ v = .int .i64 k ∧ Row wr w.heap.size n (Part (fun i => .int .i64 (g i)) (.int .i64 0) k) ∧ Below w.heap.size w wr) (fun v _ => n - (intOf v).toNat)
      case atStart => exact ⟨0, by omega, rfl, R0.congr (fun i _ => Part.zero (fun i => .int .i64 (g i)) _ i), B0⟩
      case round =>
        obtain ⟨k, hk, rfl, hR, hB⟩ := hrel
        by_cases hlt : k < n
        · have c1 : wr.cell? ⟨b, o + k, none⟩ = some (.int .i64 (g k)) := (hB.cell (p := ⟨b, o + k, none⟩) hb).trans (hc k hlt)
          have c2 := hR.cell (i := k) hlt
          have c3 := hR.frozen k
          have HR : Hid (Row (wr.setCell ⟨w.heap.size, k, none⟩ (.int .i64 (g k))) w.heap.size n (Part (fun i => .int .i64 (g i)) (.int .i64 0) (k + 1)) ∧ Below w.heap.size w (wr.setCell ⟨w.heap.size, k, none⟩ (.int .i64 (g k)))) :=
            ⟨(hR.set k (.int .i64 (g k))).congr (fun i _ => Part.step (fun i => .int .i64 (g i)) _ k i), hB.setCell (Nat.le_refl _) _⟩
          clear hR hB hc
          go_wp2
          go_roundw
          case rel => exact ⟨k + 1, by omega, by go_num, HR.out.1, HR.out.2⟩
          case measure => simp [intOf]; omega
        · clear hc
          go_wp2
          go_ret
          exact ⟨_, rfl, .inr ⟨_, Nat.le_refl _, rfl, hR.congr (fun i hi => by rw [show k = n by omega]; exact Part.all (fun i => .int .i64 (g i)) _ n i hi)⟩, by simp, hB⟩

set_option maxHeartbeats 1000000 in
theorem copy16 (a : Option Addr) (n cap : Nat) (g : Nat → Bool) (w : World) (hs : Src w a n (fun i => .bool (g i))) (hn : n ≤ 1048576) :
    Calls Try.prog 16 #[.slice a n cap] w fun e w' => ∃ a', e = .returned (.slice a' n n) ∧ Own w.heap.size w' a' n (fun i => .bool (g i)) ∧ (a' = none ↔ a = none) ∧ Below w.heap.size w w' := by
  obtain ⟨h1, h2⟩ := hs
  have hmk := make_bool n hn
  have heq := eqnil 33 4 Try.underlying33
  cases a with
  | none =>
    have h0 := h1 rfl
    clear h1 h2
    go_enter Try.func16, Try.ntmps16
    go_wp2
    go_ret
    exact ⟨none, by rw [h0]; rfl, .inl ⟨rfl, h0⟩, by simp, Below.refl _ _⟩
  | some x =>
    clear h1
    obtain ⟨w1, hw1⟩ : ∃ w1, w1 = w.alloc (.cells (madeCells #[.bool false] n) 4) := ⟨_, rfl⟩
    have R0 : Row w1 w.heap.size n (fun _ => .bool false) := by rw [hw1]; exact Row.made _ _ _ _
    have B0 : Below w.heap.size w w1 := by rw [hw1]; exact (Below.refl _ _).alloc (Nat.le_refl _) _
    have HW : Hid (w1 = w.alloc (.cells (madeCells #[.bool false] n) 4)) := hw1
    clear hw1
    rcases Nat.eq_zero_or_pos n with h0 | h0
    · have h0' : n ≤ 0 := by omega
      clear h0 h2
      go_enter Try.func16, Try.ntmps16
      go_wp2
      rw [← HW.out]
      go_loopw [4] (fun v wr => v = .int .i64 0 ∧ wr = w1) (fun _ _ => 0)
      case atStart => exact ⟨rfl, rfl⟩
      case round =>
        obtain ⟨rfl, rfl⟩ := hrel
        go_wp2
        go_ret
        exact ⟨_, rfl, .inr ⟨_, Nat.le_refl _, rfl, R0.congr (fun i hi => absurd hi (by omega))⟩, by simp, B0⟩
    · obtain ⟨b, o, hx, hb, hc⟩ := h2 h0
      obtain rfl : x = ⟨b, o, none⟩ := by simpa using hx
      clear h2 hx
      go_enter Try.func16, Try.ntmps16
      go_wp2
      rw [← HW.out]
      clear hmk heq
      go_loopw [4] (fun v wr => ∃ k : Nat, k ≤ n ∧ v = .int .i64 k ∧ Row wr w.heap.size n (Part (fun i => .bool (g i)) (.bool false) k) ∧ Below w.heap.size w wr) (fun v _ => n - (intOf v).toNat)
      case atStart => exact ⟨0, by omega, rfl, R0.congr (fun i _ => Part.zero (fun i => .bool (g i)) _ i), B0⟩
      case round =>
        obtain ⟨k, hk, rfl, hR, hB⟩ := hrel
        by_cases hlt : k < n
        · have c1 : wr.cell? ⟨b, o + k, none⟩ = some (.bool (g k)) := (hB.cell (p := ⟨b, o + k, none⟩) hb).trans (hc k hlt)
          have c2 := hR.cell (i := k) hlt
          have c3 := hR.frozen k
          have HR : Hid (Row (wr.setCell ⟨w.heap.size, k, none⟩ (.bool (g k))) w.heap.size n (Part (fun i => .bool (g i)) (.bool false) (k + 1)) ∧ Below w.heap.size w (wr.setCell ⟨w.heap.size, k, none⟩ (.bool (g k)))) :=
            ⟨(hR.set k (.bool (g k))).congr (fun i _ => Part.step (fun i => .bool (g i)) _ k i), hB.setCell (Nat.le_refl _) _⟩
          clear hR hB hc
          go_wp2
          go_roundw
          case rel => exact ⟨k + 1, by omega, by go_num, HR.out.1, HR.out.2⟩
          case measure => simp [intOf]; omega
        · clear hc
          go_wp2
          go_ret
          exact ⟨_, rfl, .inr ⟨_, Nat.le_refl _, rfl, hR.congr (fun i hi => by rw [show k = n by omega]; exact Part.all (fun i => .bool (g i)) _ n i hi)⟩, by simp, hB⟩

end Go.Proofs.Qxb6003691a
