import Derived.Test.Qxb6003691aRow
namespace Go.Proofs.Qxb6003691a
open Go.RowKit
set_option linter.unusedVariables false

theorem make_rows (n : Nat) (hn : n ≤ 1048576) (w : World) :
    (Instr.makeSlice 78 (.int .i64 (n : Int)) (.int .i64 (n : Int))).run Try.prog w = .ok (.slice (some ⟨w.heap.size, 0, none⟩) n n) (w.alloc (.cells (madeCells #[.slice none 0 0] n) 22)) := by
  have := make_any 78 22 #[.slice none 0 0] 1 24 Try.underlying78 (by kernel_rfl) n (by omega) (by omega) w
  rwa [Nat.mul_one] at this
theorem make_brows (n : Nat) (hn : n ≤ 1048576) (w : World) :
    (Instr.makeSlice 77 (.int .i64 (n : Int)) (.int .i64 (n : Int))).run Try.prog w = .ok (.slice (some ⟨w.heap.size, 0, none⟩) n n) (w.alloc (.cells (madeCells #[.slice none 0 0] n) 33)) := by
  have := make_any 77 33 #[.slice none 0 0] 1 24 Try.underlying77 (by kernel_rfl) n (by omega) (by omega) w
  rwa [Nat.mul_one] at this
theorem make_square (n : Nat) (hn : n ≤ 64) (w : World) :
    (Instr.makeSlice 22 (.int .i64 ((n : Int) * (n : Int))) (.int .i64 ((n : Int) * (n : Int)))).run Try.prog w = .ok (.slice (some ⟨w.heap.size, 0, none⟩) (n * n) (n * n)) (w.alloc (.cells (madeCells #[.int .u64 0] (n * n)) 36)) := by
  have h : n * n ≤ 64 * 64 := Nat.mul_le_mul hn hn
  have := make_u64 (n * n) (by omega) w
  rwa [Int.natCast_mul] at this

/-- The matrix of n rows of n numbers, all in one block. -/
def Mat (w : World) (rb cb n : Nat) (G : Nat → Int) : Prop :=
  Row w rb n (fun i => .slice (some ⟨cb, i * n, none⟩) n n) ∧ Row w cb (n * n) (fun p => .int .u64 (G p)) ∧ rb ≠ cb

/-- The first k rows are laid. -/
def PartR (cb n k : Nat) : Nat → Value := fun j => if j < k then .slice (some ⟨cb, j * n, none⟩) n n else .slice none 0 0
theorem PartR.step (cb n k i : Nat) : vupd (PartR cb n k) k (.slice (some ⟨cb, k * n, none⟩) n n) i = PartR cb n (k + 1) i := by
  unfold vupd PartR
  by_cases h : i = k
  · subst h; simp
  · by_cases h1 : i < k
    · rw [if_neg h, if_pos h1, if_pos (by omega)]
    · rw [if_neg h, if_neg h1, if_neg (by omega)]

set_option maxHeartbeats 1000000 in
theorem newMatrix_any (n : Nat) (hn : n ≤ 64) (w : World) :
    Calls Try.prog 55 #[.int .i64 n] w fun e w' => ∃ rb, e = .returned (.slice (some ⟨rb, 0, none⟩) n n) ∧ ∃ cb, Mat w' rb cb n (fun _ => 0) ∧ w.heap.size ≤ rb ∧ w.heap.size ≤ cb ∧ Below w.heap.size w w' := by
  have hmk1 := make_square n hn
  have hmk2 := make_rows n (by omega)
  have hnn : n * n ≤ 64 * 64 := Nat.mul_le_mul hn hn
  have b1 : (0 : Int) ≤ (n : Int) * (n : Int) := by rw [← Int.natCast_mul]; omega
  have b2 : (n : Int) * (n : Int) ≤ 4096 := by rw [← Int.natCast_mul]; omega
  go_enter Try.func55, Try.ntmps55
  go_wp2
  generalize (n : Int) * (n : Int) = y
  obtain ⟨W, hW⟩ : ∃ W, W = (w.alloc (Obj.cells (madeCells #[Value.int IntKind.u64 0] (n * n)) 36)).alloc (Obj.cells (madeCells #[Value.slice none 0 0] n) 22) := ⟨_, rfl⟩
  rw [← hW]
  obtain ⟨cb, hcb⟩ : ∃ cb, cb = w.heap.size := ⟨_, rfl⟩
  have BW : Below w.heap.size w W := by rw [hW]; exact ((Below.refl _ _).alloc (Nat.le_refl _) _).alloc (by simp) _
  rw [← hcb] at BW ⊢
  have R1 : Row W cb (n * n) (fun _ => .int .u64 0) := by rw [hW, hcb]; exact (Row.made w _ _ _).alloc _
  have R2 : Row W (cb + 1) n (PartR cb n 0) := by
    rw [hW, hcb]
    have := Row.made (w.alloc (Obj.cells (madeCells #[Value.int IntKind.u64 0] (n * n)) 36)) (.slice none 0 0) n 22
    exact (by simpa using this : Row _ _ _ _).congr (fun i _ => by simp [PartR])
  have HB : Hid (cb = w.heap.size) := hcb
  clear hmk1 hmk2 hW hcb b1 b2
  generalize hN : n * n = N
  have HN : Hid (n * n = N) := hN
  rw [hN] at R1 hnn
  clear hN
  go_loopw [14] (fun v wr => ∃ k : Nat, k ≤ n ∧ v = .int .i64 k ∧ Row wr cb N (fun _ => .int .u64 0) ∧ Row wr (cb + 1) n (PartR cb n k) ∧ Below cb w wr) (fun v _ => n - (intOf v).toNat)
  case atStart => exact ⟨0, by omega, rfl, R1, R2, BW⟩
  case round =>
    clear R1 R2 BW
    obtain ⟨k, hk, rfl, R1, R2, B⟩ := hrel
    by_cases hlt : k < n
    · obtain ⟨p, hp⟩ : ∃ p : Nat, p = k * n := ⟨_, rfl⟩
      have e1 : (k : Int) * (n : Int) = (p : Int) := by rw [hp, Int.natCast_mul]
      have e2 : ((k : Int) + 1) * (n : Int) = ((p + n : Nat) : Int) := by rw [hp, Int.natCast_add, Int.natCast_mul, Int.add_mul]; omega
      have e3 : p + n ≤ N := by
        rw [← HN.out, hp, ← Nat.succ_mul]
        exact Nat.mul_le_mul_right n hlt
      have HP : Hid (p = k * n) := hp
      clear hp
      have y1 := R2.cell (i := k) hlt
      have y2 := R2.frozen k
      rw [show PartR cb n k k = .slice none 0 0 by simp [PartR]] at y1
      have HR : Hid (Row (wr.setCell ⟨cb + 1, k, none⟩ (.slice (some ⟨cb, p, none⟩) n n)) cb N (fun _ => .int .u64 0) ∧ Row (wr.setCell ⟨cb + 1, k, none⟩ (.slice (some ⟨cb, p, none⟩) n n)) (cb + 1) n (PartR cb n (k + 1)) ∧
          Below cb w (wr.setCell ⟨cb + 1, k, none⟩ (.slice (some ⟨cb, p, none⟩) n n))) :=
        ⟨R1.setOther (show cb ≠ cb + 1 by omega) _, by rw [HP.out]; exact (R2.set k _).congr (fun i _ => PartR.step cb n k i), B.setCell (show cb ≤ cb + 1 by omega) _⟩
      clear R1 R2 B
      go_wp2
      go_roundw
      case rel => exact ⟨k + 1, by omega, by go_num, HR.out⟩
      case measure => simp [intOf]; omega
    · go_wp2
      go_ret
      rw [← HB.out]
      refine ⟨cb + 1, rfl, cb, ⟨R2.congr (fun i hi => by rw [show k = n by omega]; simp [PartR, hi]), by rw [HN.out]; exact R1, by omega⟩, by omega, by omega, B⟩

/-- The n rows of n flags, each in a block of its own. -/
def Flags (w : World) (fb n : Nat) (F : Nat → Nat → Bool) : Prop :=
  Row w fb n (fun i => .slice (some ⟨fb + 1 + i, 0, none⟩) n n) ∧ ∀ i, i < n → Row w (fb + 1 + i) n (fun j => .bool (F i j))

/-- The m links in block lb. -/
def Links (w : World) (lb m : Nat) (S R : Nat → Int) : Prop :=
  ∃ (t : TypeId) (c : Array Value), w.heap[lb]? = some (.cells c t (0, 0)) ∧ m * 2 ≤ c.size ∧
    ∀ i, i < m → c[i * 2]? = some (.int .i64 (S i)) ∧ c[i * 2 + 1]? = some (.int .i64 (R i))

/-- One of the first m links goes from i to j. -/
def named (S R : Nat → Int) (i j : Nat) : Nat → Bool
  | 0 => false
  | m + 1 => named S R i j m || (S m == (i : Int) && R m == (j : Int))

namespace Links
variable {w w' : World} {lb m : Nat} {S R : Nat → Int}
theorem fst (h : Links w lb m S R) {i : Nat} (hi : i < m) : w.cell? ⟨lb, i * 2, none⟩ = some (.int .i64 (S i)) := by
  obtain ⟨t, c, hc, _, hv⟩ := h
  simp only [World.cell?, hc]; simpa using (hv i hi).1
theorem snd (h : Links w lb m S R) {i : Nat} (hi : i < m) : w.cell? ⟨lb, i * 2 + 1, none⟩ = some (.int .i64 (R i)) := by
  obtain ⟨t, c, hc, _, hv⟩ := h
  simp only [World.cell?, hc]; simpa using (hv i hi).2
theorem frozen (h : Links w lb m S R) (o : Nat) : w.frozen? ⟨lb, o, none⟩ = false := by
  obtain ⟨t, c, hc, _, _⟩ := h
  simp [World.frozen?, hc]
theorem lt (h : Links w lb m S R) : lb < w.heap.size := by
  obtain ⟨t, c, hc, _, _⟩ := h
  exact (Array.getElem?_eq_some_iff.1 hc).1
theorem of_block (h : Links w lb m S R) (e : w'.heap[lb]? = w.heap[lb]?) : Links w' lb m S R := by
  obtain ⟨t, c, hc, r⟩ := h
  exact ⟨t, c, e.trans hc, r⟩
theorem below {B : Nat} (h : Links w lb m S R) (k : Below B w w') (hB : lb < B) : Links w' lb m S R := h.of_block (k.block _ hB)
end Links

/-- The rows of flags, the first k made. -/
def PartF (fb n k : Nat) : Nat → Value := fun j => if j < k then .slice (some ⟨fb + 1 + j, 0, none⟩) n n else .slice none 0 0
theorem PartF.step (fb n k i : Nat) : vupd (PartF fb n k) k (.slice (some ⟨fb + 1 + k, 0, none⟩) n n) i = PartF fb n (k + 1) i := by
  unfold vupd PartF
  by_cases h : i = k
  · subst h; simp
  · by_cases h1 : i < k
    · rw [if_neg h, if_pos h1, if_pos (by omega)]
    · rw [if_neg h, if_neg h1, if_neg (by omega)]

theorem Flags.of_blocks {w w' : World} {fb n : Nat} {F : Nat → Nat → Bool} (h : Flags w fb n F) (e : ∀ i, i ≤ n → w'.heap[fb + i]? = w.heap[fb + i]?) : Flags w' fb n F :=
  ⟨h.1.of_block (e 0 (by omega)), fun i hi => (h.2 i hi).of_block (by have := e (i + 1) (by omega); rwa [show fb + (i + 1) = fb + 1 + i by omega] at this)⟩
theorem Flags.alloc {w : World} {fb n : Nat} {F : Nat → Nat → Bool} (h : Flags w fb n F) (hs : fb + n < w.heap.size) (o : Obj) : Flags (w.alloc o) fb n F :=
  h.of_blocks (fun i hi => Below.heap_alloc _ _ _ (by omega))
theorem Flags.mark {w : World} {fb n l s r : Nat} {S R : Nat → Int} (h : Flags w fb n (fun i j => named S R i j l)) (hs : s < n) (hr : r < n) (hS : S l = (s : Int)) (hR : R l = (r : Int)) :
    Flags (w.setCell ⟨fb + 1 + s, r, none⟩ (.bool true)) fb n (fun i j => named S R i j (l + 1)) := by
  refine ⟨h.1.setOther (show fb ≠ fb + 1 + s by omega) _, fun i hi => ?_⟩
  by_cases e : i = s
  · subst e
    refine ((h.2 i hi).set r (.bool true)).congr (fun j hj => ?_)
    unfold vupd
    by_cases ej : j = r
    · subst ej; simp [named, hS, hR]
    · rw [if_neg ej]
      simp only [named, hS, hR]
      have : ((r : Int) == (j : Int)) = false := by simp; omega
      simp [this]
  · refine ((h.2 i hi).setOther (show fb + 1 + i ≠ fb + 1 + s by omega) _).congr (fun j hj => ?_)
    have : ((s : Int) == (i : Int)) = false := by simp; omega
    simp [named, hS, this]

set_option maxHeartbeats 2000000 in
theorem forbidden_any (n m c : Nat) (hn : n ≤ 64) (hm : m ≤ 4096) (a : Option Addr) (S R : Nat → Int) (w : World) (hL : 0 < m → ∃ lb, a = some ⟨lb, 0, none⟩ ∧ Links w lb m S R)
    (hS : ∀ i, i < m → 0 ≤ S i ∧ S i < n) (hR : ∀ i, i < m → 0 ≤ R i ∧ R i < n) :
    Calls Try.prog 54 #[.int .i64 n, .slice a m c] w fun e w' => ∃ fb, e = .returned (.slice (some ⟨fb, 0, none⟩) n n) ∧ Flags w' fb n (fun i j => named S R i j m) ∧ w.heap.size ≤ fb ∧ fb + n < w'.heap.size ∧ Below w.heap.size w w' := by
  have hmk1 := make_brows n (by omega)
  have hmk2 := make_bool n (by omega)
  have HL : Hid (0 < m → ∃ lb, a = some ⟨lb, 0, none⟩ ∧ Links w lb m S R) := hL
  clear hL
  go_enter Try.func54, Try.ntmps54
  go_wp2
  obtain ⟨W, hW⟩ : ∃ W, W = w.alloc (Obj.cells (madeCells #[Value.slice none 0 0] n) 33) := ⟨_, rfl⟩
  rw [← hW]
  obtain ⟨fb, hfb⟩ : ∃ fb, fb = w.heap.size := ⟨_, rfl⟩
  have BW : Below w.heap.size w W := by rw [hW]; exact (Below.refl _ _).alloc (Nat.le_refl _) _
  have SW : W.heap.size = fb + 1 := by rw [hW, hfb]; simp
  rw [← hfb] at BW ⊢
  have R1 : Row W fb n (PartF fb n 0) := by
    rw [hW, hfb]
    exact (Row.made w (.slice none 0 0) n 33).congr (fun i _ => by simp [PartF])
  have HB : Hid (fb = w.heap.size) := hfb
  clear hmk1 hW hfb
  go_loopw [13] (fun v wr => ∃ k : Nat, k ≤ n ∧ v = .int .i64 k ∧ wr.heap.size = fb + 1 + k ∧ Row wr fb n (PartF fb n k) ∧ (∀ i, i < k → Row wr (fb + 1 + i) n (fun j => .bool false)) ∧ Below fb w wr) (fun v _ => n - (intOf v).toNat)
  case atStart => exact ⟨0, by omega, rfl, SW, R1, fun i hi => absurd hi (by omega), BW⟩
  case round =>
    clear R1 BW SW
    obtain ⟨k, hk, rfl, hsz, R1, R2, B⟩ := hrel
    by_cases hlt : k < n
    · have y1 : ∀ o, (wr.alloc o).cell? ⟨fb, k, none⟩ = some (.slice none 0 0) := fun o => by rw [(R1.alloc o).cell hlt]; simp [PartF]
      have y2 : ∀ o, (wr.alloc o).frozen? ⟨fb, k, none⟩ = false := fun o => (R1.alloc o).frozen k
      obtain ⟨V, hV⟩ : ∃ V, V = (wr.alloc (.cells (madeCells #[.bool false] n) 4)).setCell ⟨fb, k, none⟩ (.slice (some ⟨wr.heap.size, 0, none⟩) n n) := ⟨_, rfl⟩
      have r1 : V.heap.size = fb + 1 + (k + 1) := by rw [hV]; simp [World.setCell, hsz]; omega
      have r2 : Row V fb n (PartF fb n (k + 1)) := by
        rw [hV, hsz]
        exact ((R1.alloc _).set k _).congr (fun i _ => PartF.step fb n k i)
      have r3 : ∀ i, i < k + 1 → Row V (fb + 1 + i) n (fun j => .bool false) := by
        intro i hi
        rw [hV]
        refine Row.setOther ?_ (show fb + 1 + i ≠ fb by omega) _
        by_cases e : i = k
        · subst e; rw [← hsz]; exact Row.made wr _ n _
        · exact (R2 i (by omega)).alloc _
      have r4 : Below fb w V := by rw [hV]; exact (B.alloc (by omega) _).setCell (Nat.le_refl _) _
      have HR : Hid _ := And.intro r1 (And.intro r2 (And.intro r3 r4))
      have HV : Hid (V = (wr.alloc (.cells (madeCells #[.bool false] n) 4)).setCell ⟨fb, k, none⟩ (.slice (some ⟨wr.heap.size, 0, none⟩) n n)) := hV
      clear R1 R2 B hsz r1 r2 r3 r4 hV
      go_wp2
      rw [← HV.out]
      go_roundw
      case rel => exact ⟨k + 1, by omega, by go_num, HR.out⟩
      case measure => simp [intOf]; omega
    · have F0 : Flags wr fb n (fun i j => named S R i j 0) := ⟨R1.congr (fun i hi => by rw [show k = n by omega]; simp [PartF, hi]), fun i hi => R2 i (by omega)⟩
      have hsz' : fb + 1 + n ≤ wr.heap.size := by omega
      clear R1 R2 hsz
      go_wp2
      go_loopw [24] (fun v wr => ∃ l : Nat, l ≤ m ∧ v = .int .i64 l ∧ fb + 1 + n ≤ wr.heap.size ∧ Flags wr fb n (fun i j => named S R i j l) ∧ Below fb w wr) (fun v _ => m - (intOf v).toNat)
      case atStart => exact ⟨0, by omega, rfl, hsz', F0, B⟩
      case round =>
        clear F0 B hsz'
        obtain ⟨l, hl, rfl, hsz, F, B⟩ := hrel
        by_cases hlt2 : l < m
        · obtain ⟨lb, rfl, hL⟩ := HL.out (by omega)
          have L := hL.below B (by rw [HB.out]; exact hL.lt)
          obtain ⟨s, hs1⟩ : ∃ s : Nat, S l = (s : Int) := ⟨(S l).toNat, by have := hS l hlt2; omega⟩
          obtain ⟨r, hr1⟩ : ∃ r : Nat, R l = (r : Int) := ⟨(R l).toNat, by have := hR l hlt2; omega⟩
          have hs2 : s < n := by have := hS l hlt2; omega
          have hr2 : r < n := by have := hR l hlt2; omega
          have x1 := L.fst hlt2
          have x2 := L.snd hlt2
          rw [hs1] at x1
          rw [hr1] at x2
          obtain ⟨W1, hW1⟩ : ∃ W1, W1 = wr.alloc (.cells #[.int .i64 (s : Int), .int .i64 (r : Int)] 49) := ⟨_, rfl⟩
          have F1 : Flags W1 fb n (fun i j => named S R i j l) := by rw [hW1]; exact F.alloc (by omega) _
          have p1 : W1.cell? ⟨wr.heap.size, 0, none⟩ = some (.int .i64 (s : Int)) := by rw [hW1]; simp
          have p2 : W1.cell? ⟨wr.heap.size, 1, none⟩ = some (.int .i64 (r : Int)) := by rw [hW1]; simp
          have p3 := F1.1.cell hs2
          have p4 := (F1.2 s hs2).cell hr2
          have p5 := (F1.2 s hs2).frozen r
          have r1 : fb + 1 + n ≤ (W1.setCell ⟨fb + 1 + s, r, none⟩ (.bool true)).drew.heap.size := by
            show _ ≤ (W1.setCell ⟨fb + 1 + s, r, none⟩ (.bool true)).heap.size
            rw [hW1]; simp [World.setCell]; omega
          have r2 : Flags (W1.setCell ⟨fb + 1 + s, r, none⟩ (.bool true)).drew fb n (fun i j => named S R i j (l + 1)) := F1.mark hs2 hr2 hs1 hr1
          have r3 : Below fb w (W1.setCell ⟨fb + 1 + s, r, none⟩ (.bool true)).drew := by
            have B1 : Below fb w W1 := by rw [hW1]; exact B.alloc (by omega) _
            exact (B1.setCell (show fb ≤ fb + 1 + s by omega) _).drew
          have HR : Hid _ := And.intro r1 (And.intro r2 r3)
          have HW1 : Hid (W1 = wr.alloc (.cells #[.int .i64 (s : Int), .int .i64 (r : Int)] 49)) := hW1
          clear hW1 F F1 B L r1 r2 r3 hS hR hs1 hr1 hL
          go_wp2
          rw [← HW1.out]
          go_region
          all_goals
            go_wp2
            go_roundw
            case rel => exact ⟨l + 1, by omega, by go_num, HR.out⟩
            case measure => simp [intOf]; omega
        · go_wp2
          go_ret
          rw [← HB.out]
          exact ⟨fb, rfl, by rw [show l = m by omega] at F; exact F, Nat.le_refl _, by omega, B⟩
end Go.Proofs.Qxb6003691a
