import Derived.Test.Qxb6003691aRows
import Derived.Test.Qxb6003691aPlain
import Derived.WalkKit
import Derived.WalkSpells
import Derived.WalkLawsBesides
namespace Go.Proofs.Qxb6003691a
open Go.RowKit
set_option linter.unusedVariables false

set_option maxHeartbeats 400000 in
theorem before_pair (a r b s : Int) (w : World) :
    Calls Try.prog 53 #[.agg #[.int .u64 a, .int .u32 r], .agg #[.int .u64 b, .int .u32 s]] w fun e w' => e = .returned (.bool (bef (a, r) (b, s))) ∧ Below w.heap.size w w' := by
  have bel : Below w.heap.size w ((w.alloc (.cells #[.int .u64 a, .int .u32 r] 72)).alloc (.cells #[.int .u64 b, .int .u32 s] 72)) :=
    ((Below.refl _ _).alloc (Nat.le_refl _) _).alloc (by simp) _
  rcases Int.lt_trichotomy a b with h | h | h
  · have h1 : bef (a, r) (b, s) = false := bef_lt h
    have h2 : ¬ b < a := by omega
    have h3 : (a == b) = false := by simp; omega
    rw [h1]
    clear h1
    go_enter Try.func53, Try.ntmps53
    go_wp2
    go_ret
    exact ⟨rfl, bel⟩
  · subst h
    have h1 : bef (a, r) (a, s) = decide (r < s) := bef_eq rfl
    rw [h1]
    clear h1
    go_enter Try.func53, Try.ntmps53
    go_wp2
    go_ret
    exact ⟨rfl, bel⟩
  · have h1 : bef (a, r) (b, s) = true := bef_gt h
    rw [h1]
    clear h1
    go_enter Try.func53, Try.ntmps53
    go_wp2
    go_ret
    exact ⟨rfl, bel⟩

theorem before_any (x y : Int × Int) (w : World) :
    Calls Try.prog 53 #[.agg #[.int .u64 x.1, .int .u32 x.2], .agg #[.int .u64 y.1, .int .u32 y.2]] w fun e w' => e = .returned (.bool (bef x y)) ∧ Below w.heap.size w w' :=
  before_pair x.1 x.2 y.1 y.2 w

/-- Of the blocks that were there in w, those outside S are in w' as they were. -/
structure Keep (S : Nat → Prop) (w w' : World) : Prop where
  os : w'.os = w.os
  tape : w'.tape = w.tape
  output : w'.output = w.output
  size : w.heap.size ≤ w'.heap.size
  block : ∀ k, k < w.heap.size → ¬ S k → w'.heap[k]? = w.heap[k]?

namespace Keep
variable {S : Nat → Prop} {w w' w'' : World}
theorem refl (S : Nat → Prop) (w : World) : Keep S w w := ⟨rfl, rfl, rfl, Nat.le_refl _, fun _ _ _ => rfl⟩
theorem trans (h : Keep S w w') (k : Keep S w' w'') : Keep S w w'' :=
  ⟨k.os.trans h.os, k.tape.trans h.tape, k.output.trans h.output, Nat.le_trans h.size k.size,
    fun i hi hS => (k.block i (Nat.lt_of_lt_of_le hi h.size) hS).trans (h.block i hi hS)⟩
theorem of_below (h : Below w.heap.size w w') : Keep S w w' := ⟨h.os, h.tape, h.output, h.size, fun k hk _ => h.block k hk⟩
theorem below (h : Keep S w w') (k : Below w'.heap.size w' w'') : Keep S w w'' := h.trans (of_below k)
theorem alloc (h : Keep S w w') (o : Obj) : Keep S w (w'.alloc o) := h.trans (of_below ((Below.refl _ _).alloc (Nat.le_refl _) _))
theorem drew (h : Keep S w w') : Keep S w w'.drew := ⟨h.os, h.tape, h.output, h.size, h.block⟩
theorem setCell (h : Keep S w w') {a : Addr} (ha : S a.block ∨ w.heap.size ≤ a.block) (v : Value) : Keep S w (w'.setCell a v) :=
  ⟨h.os, h.tape, h.output, by simpa [World.setCell] using h.size, fun k hk hS => by
    rw [Below.heap_setCell _ _ _ _ (by rintro rfl; rcases ha with ha | ha; exact hS ha; omega)]; exact h.block k hk hS⟩
theorem mono {T : Nat → Prop} (h : Keep S w w') (hT : ∀ k, S k → T k) : Keep T w w' :=
  ⟨h.os, h.tape, h.output, h.size, fun k hk hS => h.block k hk (fun c => hS (hT k c))⟩
/-- What is let go lies from B on: below B nothing has turned. -/
theorem to_below {B : Nat} (h : Keep S w w') (hB : B ≤ w.heap.size) (hS : ∀ k, k < B → ¬ S k) : Below B w w' :=
  ⟨h.os, h.tape, h.output, h.size, fun k hk => h.block k (by omega) (hS k hk)⟩
theorem cell (h : Keep S w w') {a : Addr} (ha : a.block < w.heap.size) (hS : ¬ S a.block) : w'.cell? a = w.cell? a := World.cell?_of_block (w := w) (h.block _ ha hS)
theorem frozen (h : Keep S w w') {a : Addr} (ha : a.block < w.heap.size) (hS : ¬ S a.block) : w'.frozen? a = w.frozen? a := World.frozen?_of_block (w := w) (h.block _ ha hS)
end Keep

/-- Block hb begins with the n entries f, two cells each; no cell of it is frozen. -/
def Heap (w : World) (hb n : Nat) (f : Nat → Int × Int) : Prop :=
  ∃ c : Array Value, w.heap[hb]? = some (.cells c 72 (0, 0)) ∧ n * 2 ≤ c.size ∧
    ∀ i, i < n → c[i * 2]? = some (.int .u64 (f i).1) ∧ c[i * 2 + 1]? = some (.int .u32 (f i).2)

namespace Heap
variable {w w' : World} {hb n : Nat} {f : Nat → Int × Int}
theorem fst (h : Heap w hb n f) {i : Nat} (hi : i < n) : w.cell? ⟨hb, i * 2, none⟩ = some (.int .u64 (f i).1) := by
  obtain ⟨c, hc, _, hv⟩ := h
  simp only [World.cell?, hc]; simpa using (hv i hi).1
theorem snd (h : Heap w hb n f) {i : Nat} (hi : i < n) : w.cell? ⟨hb, i * 2 + 1, none⟩ = some (.int .u32 (f i).2) := by
  obtain ⟨c, hc, _, hv⟩ := h
  simp only [World.cell?, hc]; simpa using (hv i hi).2
theorem frozen (h : Heap w hb n f) (o : Nat) : w.frozen? ⟨hb, o, none⟩ = false := by
  obtain ⟨c, hc, _, _⟩ := h
  simp [World.frozen?, hc]
theorem lt (h : Heap w hb n f) : hb < w.heap.size := by
  obtain ⟨c, hc, _, _⟩ := h
  exact (Array.getElem?_eq_some_iff.1 hc).1
theorem of_block (h : Heap w hb n f) (e : w'.heap[hb]? = w.heap[hb]?) : Heap w' hb n f := by
  obtain ⟨c, hc, r⟩ := h
  exact ⟨c, e.trans hc, r⟩
theorem below (h : Heap w hb n f) (k : Below w.heap.size w w') : Heap w' hb n f := h.of_block (k.block _ h.lt)
theorem keep {S : Nat → Prop} (h : Heap w hb n f) (k : Keep S w w') (hS : ¬ S hb) : Heap w' hb n f := h.of_block (k.block _ h.lt hS)
theorem alloc (h : Heap w hb n f) (o : Obj) : Heap (w.alloc o) hb n f := h.below ((Below.refl _ _).alloc (Nat.le_refl _) _)
theorem drew (h : Heap w hb n f) : Heap w.drew hb n f := h
theorem less {m : Nat} (h : Heap w hb n f) (hm : m ≤ n) : Heap w hb m f := by
  obtain ⟨c, hc, hs, hv⟩ := h
  exact ⟨c, hc, by omega, fun i hi => hv i (by omega)⟩
theorem congr {g : Nat → Int × Int} (h : Heap w hb n f) (e : ∀ i, i < n → f i = g i) : Heap w hb n g := by
  obtain ⟨c, hc, hs, hv⟩ := h
  exact ⟨c, hc, hs, fun i hi => by rw [← e i hi]; exact hv i hi⟩
/-- One entry stored. -/
theorem set (h : Heap w hb n f) {i : Nat} (hi : i < n) (v : Int × Int) :
    Heap ((w.setCell ⟨hb, i * 2, none⟩ (.int .u64 v.1)).setCell ⟨hb, i * 2 + 1, none⟩ (.int .u32 v.2)) hb n (upd f i v) := by
  obtain ⟨c, hc, hs, hv⟩ := h
  refine ⟨(c.setIfInBounds (i * 2) (.int .u64 v.1)).setIfInBounds (i * 2 + 1) (.int .u32 v.2), ?_, by simpa using hs, fun j hj => ?_⟩
  · simp [World.setCell, Array.getElem?_modify, hc]
  · by_cases e : j = i
    · subst e
      rw [upd_same]
      constructor
      · rw [Array.getElem?_setIfInBounds_ne (by omega), Array.getElem?_setIfInBounds_self_of_lt (by omega)]
      · rw [Array.getElem?_setIfInBounds_self_of_lt (by simp; omega)]
    · rw [upd_other _ e]
      constructor
      · rw [Array.getElem?_setIfInBounds_ne (by omega), Array.getElem?_setIfInBounds_ne (by omega)]; exact (hv j hj).1
      · rw [Array.getElem?_setIfInBounds_ne (by omega), Array.getElem?_setIfInBounds_ne (by omega)]; exact (hv j hj).2
end Heap

end Go.Proofs.Qxb6003691a
