import Derived.Test.Qxb6003691aRootLaw
import Derived.Test.Qxb6003691aRootZero
import Derived.Test.Qxb6003691aRootEarly
namespace Go.Proofs.Qxb6003691a
open Go.RowKit
set_option linter.unusedVariables false

theorem src_bools {w : World} {a : Option Addr} {len cap : Nat} {B : Nat → Bool}
    (h : (a = none ∧ len = 0) ∨ ∃ x : Addr, a = some x ∧ len ≤ cap ∧ cap ≤ maxLen ∧ ∀ i, i < cap → w.cell? (x.add i) = some (.bool (B i))) :
    Src w a len (fun i => .bool (B i)) ∧ len ≤ maxLen := by
  rcases h with ⟨rfl, rfl⟩ | ⟨x, rfl, h1, h2, h4⟩
  · exact ⟨⟨fun _ => rfl, fun h => absurd h (by omega)⟩, by unfold maxLen; omega⟩
  · refine ⟨⟨fun h => (by cases h), fun hn => ?_⟩, by omega⟩
    obtain ⟨b, off, spot⟩ := x
    have hspot : spot = none := by simpa [Addr.add] using World.cell?_spot (h4 0 (by omega))
    subst hspot
    have e0 := h4 0 (by omega)
    refine ⟨b, off, rfl, lt_of_cell (a := ⟨b, off, none⟩) (by simpa [Addr.add] using e0), fun i hi => ?_⟩
    have := h4 i (by omega)
    rw [Go.WideShapes.add_plain] at this
    exact this

theorem root_all (a0 a1 a2 a3 : Option Addr) (l0 l1 l2 l3 cap0 cap1 cap2 cap3 : Nat) (z0 z1 z2 : List Int) (B : Nat → Bool) (w : World)
    (h0 : Src w a0 l0 (fun i => .int .u64 (z0.getD i 0)) ∧ l0 ≤ maxLen) (h1 : Src w a1 l1 (fun i => .int .u32 (z1.getD i 0)) ∧ l1 ≤ maxLen)
    (h2 : Src w a2 l2 (fun i => .int .u64 (z2.getD i 0)) ∧ l2 ≤ maxLen) (h3 : Src w a3 l3 (fun i => .bool (B i)) ∧ l3 ≤ maxLen) :
    Calls Try.prog 4 #[.slice a0 l0 cap0, .slice a1 l1 cap1, .slice a2 l2 cap2, .slice a3 l3 cap3] w fun e w' => e = .returned (.bool true) ∧ Below w.heap.size w w' := by
  by_cases h : l0 ≤ 1024 ∧ l1 ≤ 1024 ∧ l2 ≤ 1024 ∧ l3 ≤ 1024 ∧ l0 = l1 ∧ l2 = l3
  · obtain ⟨x0, x1, x2, x3, rfl, rfl⟩ := h
    by_cases hn : l0 < 1
    · exact root_zero a0 a1 a2 a3 l0 l2 cap0 cap1 cap2 cap3 _ _ w h2.1 h3.1 hn x2
    · exact root_core a0 a1 a2 a3 l0 l2 cap0 cap1 cap2 cap3 _ _ _ _ w h0.1 h1.1 h2.1 h3.1 x0 x2 (by omega)
  · exact root_early a0 a1 a2 a3 l0 l1 l2 l3 cap0 cap1 cap2 cap3 w h0.2 h1.2 h2.2 h3.2 h
end Go.Proofs.Qxb6003691a
