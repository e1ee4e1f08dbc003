import Derived.Test.Qxb6003691aRound4
namespace Go.Proofs.Qxb6003691a
open Go.RowKit
set_option linter.unusedVariables false

/-- The cells of the struct that goes into ZZNewRound. -/
def cells39 (p0 p1 p2 p3 : Int) (la : Option Addr) (m lc : Nat) : List Value := [.int .u64 p0, .int .u64 p1, .int .u64 p2, .int .u64 p3, .slice la m lc, .slice none 0 0, .int .u8 0, .int .u8 0, .int .u8 0, .int .u8 0, .int .u8 0, .int .u8 0, .int .u8 0, .int .u8 0, .int .u8 0, .int .u8 0, .int .u8 0, .int .u8 0, .int .u8 0, .int .u8 0, .int .u8 0, .int .u8 0, .int .u8 0, .int .u8 0, .int .u8 0, .int .u8 0, .int .u8 0, .int .u8 0, .int .u8 0, .int .u8 0, .int .u8 0, .int .u8 0, .int .u8 0, .int .u8 0, .int .u8 0, .int .u8 0, .int .u8 0, .int .u8 0, .bool false]
/-- The cells of a new variable of that type. -/
def zeros39 : Array Value := #[.int .u64 0, .int .u64 0, .int .u64 0, .int .u64 0, .slice none 0 0, .slice none 0 0, .int .u8 0, .int .u8 0, .int .u8 0, .int .u8 0, .int .u8 0, .int .u8 0, .int .u8 0, .int .u8 0, .int .u8 0, .int .u8 0, .int .u8 0, .int .u8 0, .int .u8 0, .int .u8 0, .int .u8 0, .int .u8 0, .int .u8 0, .int .u8 0, .int .u8 0, .int .u8 0, .int .u8 0, .int .u8 0, .int .u8 0, .int .u8 0, .int .u8 0, .int .u8 0, .int .u8 0, .int .u8 0, .int .u8 0, .int .u8 0, .int .u8 0, .int .u8 0, .bool false]

theorem built39 (p0 p1 p2 p3 : Int) (la : Option Addr) (m lc : Nat) : Try.prog.built 55 [(0, .agg #[.int .u64 p0, .int .u64 p1, .int .u64 p2, .int .u64 p3]), (1, .slice la m lc)] = some (cells39 p0 p1 p2 p3 la m lc).toArray := by
  kernel_rfl
theorem one39 (p0 p1 p2 p3 : Int) (la : Option Addr) (m lc : Nat) : (cells39 p0 p1 p2 p3 la m lc).toArray.all (·.oneCell') = true := by
  kernel_rfl
theorem size39 (p0 p1 p2 p3 : Int) (la : Option Addr) (m lc : Nat) : (Try.prog.info? 55).map (·.size) = some (cells39 p0 p1 p2 p3 la m lc).toArray.size := by
  kernel_rfl
theorem len39 (p0 p1 p2 p3 : Int) (la : Option Addr) (m lc : Nat) : (Try.prog.info? 55).map (·.size) = some (cells39 p0 p1 p2 p3 la m lc).length := by
  kernel_rfl
theorem alloc39 (w : World) : (Instr.alloc 55 true (.tuple #[])).run Try.prog w = .ok (.pointer (some ⟨w.heap.size, 0, none⟩)) (w.alloc (.cells zeros39 55)) := by
  kernel_rfl

theorem there39 (w : World) : (w.alloc (.cells zeros39 55)).there w.heap.size 0 39 := fun j hj => by
  have hb := heap_new w (.cells zeros39 55) _ rfl
  have hz : 0 + j < zeros39.size := by have : zeros39.size = 39 := by decide
                                       omega
  constructor
  · simp only [World.cell?, hb]
    rw [Array.getElem?_eq_getElem hz]; rfl
  · simp only [World.frozen?, hb]
    simp

/-- A struct is built: its cells behind a name. -/
theorem wpList_build {P : Program} {ops : Array Oper} {rest : List Oper} {op : Oper} {a : Act} {w : World} {Q : Exit → Act → World → Prop} (hgd : op.guard = none) (t : TypeId) (parts : Array (Nat × Operand)) (ho : op.op = .build t parts)
    (cells : Array Value) (hf : P.built t (parts.map fun (i, x) => (i, a.eval x)).toList = some cells)
    (h : wpList P ops Q rest (a.put op.dst (.agg cells)) w) : wpList P ops Q (op :: rest) a w :=
  wpList_plain hgd fun _ hK => Go.wp_build t parts ho (by rw [hf]; rfl) (by rw [hf]; exact hK _ _ h)

/-- A new variable: its cells behind a name. -/
theorem wpList_new {P : Program} {ops : Array Oper} {rest : List Oper} {op : Oper} {a : Act} {w : World} {Q : Exit → Act → World → Prop} (hgd : op.guard = none) (t : TypeId) (ho : op.op = .alloc t)
    (v : Value) (w2 : World) (hr : (Instr.alloc t true (.tuple #[])).run P w = .ok v w2)
    (h : wpList P ops Q rest (a.put op.dst v) w2) : wpList P ops Q (op :: rest) a w :=
  wpList_plain hgd fun _ hK => by
    unfold Oper.wp execOp
    simp only [ho, Sem.run_bind, hr, Result.andThen_ok, Sem.run_pure]
    exact hK _ _ h

/-- The store and the load that follow. -/
def stored39 (w : World) (cs : List Value) : World := (w.alloc (.cells zeros39 55)).setCells w.heap.size 0 cs
theorem range39 (w : World) (p0 p1 p2 p3 : Int) (la : Option Addr) (m lc : Nat) : (stored39 w (cells39 p0 p1 p2 p3 la m lc)).rangeAt w.heap.size 0 (cells39 p0 p1 p2 p3 la m lc) :=
  World.rangeAt_setCells_same _ _ _ _ (there39 w)
theorem setCells_below {B : Nat} {a : World} (b : Nat) (hb : B ≤ b) : ∀ (cs : List Value) (o : Nat) (w : World), Below B a w → Below B a (w.setCells b o cs)
  | [], _, _, h => h
  | v :: r, o, w, h => setCells_below b hb r (o + 1) _ (h.setCell hb v)
theorem below39 (w : World) (cs : List Value) : Below w.heap.size w (stored39 w cs) :=
  setCells_below _ (Nat.le_refl _) _ _ _ ((Below.refl _ _).alloc (Nat.le_refl _) _)

theorem zzNewRound39 (n m c : Nat) (hn : n ≤ 64) (hm : m ≤ 4096) (a : Option Addr) (S R : Nat → Int) (p0 p1 p2 p3 : Int) (w : World) (hL : 0 < m → ∃ lb, a = some ⟨lb, 0, none⟩ ∧ Links w lb m S R)
    (hS : ∀ i, i < m → 0 ≤ S i ∧ S i < n) (hR : ∀ i, i < m → 0 ≤ R i ∧ R i < n) :
    Calls Try.prog 27 #[.int .i64 n, .agg (cells39 p0 p1 p2 p3 a m c).toArray] w fun e w' => ∃ sb, e = .returned (.pointer (some ⟨sb, 0, none⟩)) ∧
      ∃ b, Rnd w' sb b n p0 p1 p2 p3 (fun i j => named S R i j m) (fun _ => 0) (fun _ => 0) (fun _ => p0) (fun _ => p0) ∧ w.heap.size ≤ b.gc ∧ w.heap.size ≤ b.ac ∧ Below w.heap.size w w' :=
  zzNewRound_any n m c hn hm a S R p0 p1 p2 p3 w hL hS hR

end Go.Proofs.Qxb6003691a
