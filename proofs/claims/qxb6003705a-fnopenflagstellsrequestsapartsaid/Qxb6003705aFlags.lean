import Derived.Test.Qxb6003705aRows
import Derived.WalkKit
import Derived.WalkSpells
import Derived.WalkLawsBesides
namespace Go.Proofs.Qxb6003705a
open Go.RowKit
set_option linter.unusedVariables false

/-- The flags that an open mode asks for: its access, and whether it truncates. -/
def F (x : Int) (t : Bool) : Int := (if x = 1 then 1 else if x = 2 then 2 else 0) + (if t then 512 else 0)

theorem byte_ex {P : Int → Prop} (h : ∀ n : Fin 256, P (n.val : Int)) (a : Int) (h0 : 0 ≤ a) (h1 : a ≤ 255) : P a := by
  have := h ⟨a.toNat, by omega⟩
  rwa [show ((a.toNat : Nat) : Int) = a by omega] at this

theorem and3 (a : Int) (h0 : 0 ≤ a) (h1 : a ≤ 255) : bits .and .u8 a 3 = 0 ∨ bits .and .u8 a 3 = 1 ∨ bits .and .u8 a 3 = 2 ∨ bits .and .u8 a 3 = 3 :=
  byte_ex (P := fun a => bits .and .u8 a 3 = 0 ∨ bits .and .u8 a 3 = 1 ∨ bits .and .u8 a 3 = 2 ∨ bits .and .u8 a 3 = 3) (by decide +kernel) a h0 h1
theorem and16 (a : Int) (h0 : 0 ≤ a) (h1 : a ≤ 255) : bits .and .u8 a 16 = 0 ∨ bits .and .u8 a 16 = 16 :=
  byte_ex (P := fun a => bits .and .u8 a 16 = 0 ∨ bits .and .u8 a 16 = 16) (by decide +kernel) a h0 h1

theorem index0 (w : World) : (Instr.index 37 (.agg #[.int .i64 0, .int .i64 1, .int .i64 2, .int .i64 0]) (.int .u8 0)).run Try.prog w = .ok (.int .i64 0) w := by kernel_rfl
theorem index1 (w : World) : (Instr.index 37 (.agg #[.int .i64 0, .int .i64 1, .int .i64 2, .int .i64 0]) (.int .u8 1)).run Try.prog w = .ok (.int .i64 1) w := by kernel_rfl
theorem index2 (w : World) : (Instr.index 37 (.agg #[.int .i64 0, .int .i64 1, .int .i64 2, .int .i64 0]) (.int .u8 2)).run Try.prog w = .ok (.int .i64 2) w := by kernel_rfl
theorem index3 (w : World) : (Instr.index 37 (.agg #[.int .i64 0, .int .i64 1, .int .i64 2, .int .i64 0]) (.int .u8 3)).run Try.prog w = .ok (.int .i64 0) w := by kernel_rfl

theorem openFlags_any (a x : Int) (t : Bool) (w : World) (hx : bits .and .u8 a 3 = x) (ht : bits .and .u8 a 16 = if t then 16 else 0) (h : x = 0 ∨ x = 1 ∨ x = 2 ∨ x = 3) :
    Calls Try.prog 17 #[.int .u8 a] w fun e w' => e = .returned (.int .i64 (F x t)) ∧ w' = w := by
  have i0 := index0
  have i1 := index1
  have i2 := index2
  have i3 := index3
  rcases h with rfl | rfl | rfl | rfl <;> cases t <;> simp only [if_true, Bool.false_eq_true, if_false] at ht
  all_goals
    go_enter Try.func17, Try.ntmps17
    go_wp2
    go_ret
    exact ⟨rfl, rfl⟩

theorem zzOpenFlags_any (a x : Int) (t : Bool) (w : World) (hx : bits .and .u8 a 3 = x) (ht : bits .and .u8 a 16 = if t then 16 else 0) (h : x = 0 ∨ x = 1 ∨ x = 2 ∨ x = 3) :
    Calls Try.prog 14 #[.int .u8 a] w fun e w' => e = .returned (.int .i64 (F x t)) ∧ w' = w := by
  go_enter Try.func14, Try.ntmps14
  go_wp2_with (go_at_call 17; refine (openFlags_any a x t w hx ht h).mono ?_; rintro e w' ⟨rfl, rfl⟩)
  go_ret
  exact ⟨rfl, rfl⟩

theorem clear16 (a : Int) (h0 : 0 ≤ a) (h1 : a ≤ 255) : bits .and .u8 (bits .andNot .u8 a 16) 3 = bits .and .u8 a 3 ∧ bits .and .u8 (bits .andNot .u8 a 16) 16 = 0 :=
  byte_ex (P := fun a => bits .and .u8 (bits .andNot .u8 a 16) 3 = bits .and .u8 a 3 ∧ bits .and .u8 (bits .andNot .u8 a 16) 16 = 0) (by decide +kernel) a h0 h1
theorem set16 (a : Int) (h0 : 0 ≤ a) (h1 : a ≤ 255) : bits .and .u8 (bits .or .u8 a 16) 3 = bits .and .u8 a 3 ∧ bits .and .u8 (bits .or .u8 a 16) 16 = 16 :=
  byte_ex (P := fun a => bits .and .u8 (bits .or .u8 a 16) 3 = bits .and .u8 a 3 ∧ bits .and .u8 (bits .or .u8 a 16) 16 = 16) (by decide +kernel) a h0 h1

theorem trunc_law (a : Int) (w : World) (h0 : 0 ≤ a) (h1 : a ≤ 255) :
    Calls Try.prog 5 #[.int .u8 a] w fun e w' => e = .returned (.bool true) ∧ w' = w := by
  have c1 := clear16 a h0 h1
  have c2 := set16 a h0 h1
  have key : ∀ x : Int, bits .and .u8 a 3 = x → (x = 0 ∨ x = 1 ∨ x = 2 ∨ x = 3) → Calls Try.prog 5 #[.int .u8 a] w fun e w' => e = .returned (.bool true) ∧ w' = w := by
    intro x hx h
    have z1 := fun w => zzOpenFlags_any (bits .andNot .u8 a 16) x false w (c1.1.trans hx) (by simpa using c1.2) h
    have z2 := fun w => zzOpenFlags_any (bits .or .u8 a 16) x true w (c2.1.trans hx) (by simpa using c2.2) h
    have Z1 := (show Hid (∀ w, _) from z1)
    have Z2 := (show Hid (∀ w, _) from z2)
    clear z1 z2 c1 c2 hx
    rcases h with rfl | rfl | rfl | rfl
    all_goals
      go_enter Try.func5, Try.ntmps5
      go_wp2_with fail
      refine (Z1.out _).mono ?_
      rintro e w' ⟨rfl, rfl⟩
      go_wp2_with fail
      refine (Z2.out _).mono ?_
      rintro e w' ⟨rfl, rfl⟩
      first
        | rw [show F 0 true = 512 from rfl, show F 0 false = 0 from rfl]
        | rw [show F 1 true = 513 from rfl, show F 1 false = 1 from rfl]
        | rw [show F 2 true = 514 from rfl, show F 2 false = 2 from rfl]
        | rw [show F 3 true = 512 from rfl, show F 3 false = 0 from rfl]
      go_wp2
      go_ret
      exact ⟨rfl, rfl⟩
  exact key _ rfl (and3 a h0 h1)

/-- What zzCanonOpenMode answers. -/
def canon (a : Int) : Int := bits .or .u8 (if bits .and .u8 a 3 = 3 then 0 else bits .and .u8 a 3) (bits .and .u8 a 16)

theorem canon_any (a : Int) (w : World) : Calls Try.prog 15 #[.int .u8 a] w fun e w' => e = .returned (.int .u8 (canon a)) ∧ w' = w := by
  by_cases h : bits .and .u8 a 3 = 3
  · have e : canon a = bits .or .u8 0 (bits .and .u8 a 16) := by unfold canon; rw [if_pos h]
    rw [e]
    clear e
    go_enter Try.func15, Try.ntmps15
    go_wp2
    go_ret
    exact ⟨rfl, rfl⟩
  · have e : canon a = bits .or .u8 (bits .and .u8 a 3) (bits .and .u8 a 16) := by unfold canon; rw [if_neg h]
    rw [e]
    clear e
    have h' : (bits .and .u8 a 3 == 3) = false := by simpa using h
    go_enter Try.func15, Try.ntmps15
    go_wp2
    go_ret
    exact ⟨rfl, rfl⟩

/-- The flags of a mode. -/
def flagsOf (a : Int) : Int := F (bits .and .u8 a 3) (bits .and .u8 a 16 == 16)

theorem flagsOf_any (a : Int) (w : World) (h0 : 0 ≤ a) (h1 : a ≤ 255) : Calls Try.prog 14 #[.int .u8 a] w fun e w' => e = .returned (.int .i64 (flagsOf a)) ∧ w' = w :=
  zzOpenFlags_any a _ _ w rfl (by rcases and16 a h0 h1 with h | h <;> simp [h]) (and3 a h0 h1)

theorem apart_plain (a b : Int) (a0 : 0 ≤ a) (a1 : a ≤ 255) (b0 : 0 ≤ b) (b1 : b ≤ 255) (h : canon a ≠ canon b) : flagsOf a ≠ flagsOf b := by
  intro e
  apply h
  unfold flagsOf at e
  unfold canon
  rcases and3 a a0 a1 with x | x | x | x <;> rcases and16 a a0 a1 with y | y <;> rcases and3 b b0 b1 with u | u | u | u <;> rcases and16 b b0 b1 with v | v <;> rw [x, y, u, v] at e ⊢ <;> first | rfl | (exact absurd e (by decide))

theorem apart_law (a b : Int) (w : World) (a0 : 0 ≤ a) (a1 : a ≤ 255) (b0 : 0 ≤ b) (b1 : b ≤ 255) :
    Calls Try.prog 6 #[.int .u8 a, .int .u8 b] w fun e w' => e = .returned (.bool true) ∧ w' = w := by
  by_cases h : canon a = canon b
  · have h' : (canon a == canon b) = true := by simpa using h
    clear h
    go_enter Try.func6, Try.ntmps6
    go_wp2_with fail
    refine (canon_any a _).mono ?_
    rintro e w' ⟨rfl, rfl⟩
    go_wp2_with fail
    refine (canon_any b _).mono ?_
    rintro e w' ⟨rfl, rfl⟩
    go_wp2
    go_ret
    exact ⟨rfl, rfl⟩
  · have h' : (canon a == canon b) = false := by simpa using h
    have G : Hid ((flagsOf a != flagsOf b) = true) := by show (flagsOf a != flagsOf b) = true; simpa using apart_plain a b a0 a1 b0 b1 h
    clear h
    go_enter Try.func6, Try.ntmps6
    go_wp2_with fail
    refine (canon_any a _).mono ?_
    rintro e w' ⟨rfl, rfl⟩
    go_wp2_with fail
    refine (canon_any b _).mono ?_
    rintro e w' ⟨rfl, rfl⟩
    go_wp2_with fail
    refine (flagsOf_any a _ a0 a1).mono ?_
    rintro e w' ⟨rfl, rfl⟩
    go_wp2_with fail
    refine (flagsOf_any b _ b0 b1).mono ?_
    rintro e w' ⟨rfl, rfl⟩
    go_wp2
    go_ret
    exact ⟨congrArg (fun b => Ending.returned (Value.bool b)) G.out, rfl⟩
end Go.Proofs.Qxb6003705a
