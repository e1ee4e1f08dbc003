import Derived.Test.Qxb6003691aRound
import Derived.Deep.QuietTactic
import Derived.BigQuiet
namespace Go.Proofs.Qxb6003691a
open Go.RowKit
set_option linter.unusedVariables false

/-- The blocks of a round. -/
structure Rb where
  fb : Nat
  gb : Nat
  gc : Nat
  ab : Nat
  ac : Nat
  sl : Nat
  rl : Nat

/-- The blocks that are written are none of the others. -/
def Apart (b : Rb) (sb n : Nat) : Prop :=
  (b.gc ≠ sb ∧ b.gc ≠ b.gb ∧ b.gc ≠ b.ab ∧ b.gc ≠ b.ac ∧ b.gc ≠ b.sl ∧ b.gc ≠ b.rl ∧ (b.gc < b.fb ∨ b.fb + n < b.gc)) ∧
  (b.ac ≠ sb ∧ b.ac ≠ b.gb ∧ b.ac ≠ b.ab ∧ b.ac ≠ b.sl ∧ b.ac ≠ b.rl ∧ (b.ac < b.fb ∨ b.fb + n < b.ac)) ∧
  (b.sl ≠ sb ∧ b.sl ≠ b.gb ∧ b.sl ≠ b.ab ∧ b.sl ≠ b.rl ∧ (b.sl < b.fb ∨ b.fb + n < b.sl)) ∧
  (b.rl ≠ sb ∧ b.rl ≠ b.gb ∧ b.rl ≠ b.ab ∧ (b.rl < b.fb ∨ b.fb + n < b.rl))

/-- Block sb is a round of n shards. -/
structure Rnd (w : World) (sb : Nat) (b : Rb) (n : Nat) (p0 p1 p2 p3 : Int) (F : Nat → Nat → Bool) (G A L R : Nat → Int) : Prop where
  self : w.heap[sb]? = some (.cells #[.int .u64 p0, .int .u64 p1, .int .u64 p2, .int .u64 p3, .slice (some ⟨b.fb, 0, none⟩) n n, .slice (some ⟨b.gb, 0, none⟩) n n, .slice (some ⟨b.ab, 0, none⟩) n n, .slice (some ⟨b.sl, 0, none⟩) n n, .slice (some ⟨b.rl, 0, none⟩) n n] 80 (0, 0))
  flags : Flags w b.fb n F
  grants : Mat w b.gb b.gc n G
  allow : Mat w b.ab b.ac n A
  send : Row w b.sl n (fun i => .int .u64 (L i))
  recv : Row w b.rl n (fun i => .int .u64 (R i))
  apart : Apart b sb n

/-- g, at i turned to v. -/
def iupd (g : Nat → Int) (i : Nat) (v : Int) : Nat → Int := fun j => if j = i then v else g j
theorem upd_u64 (g : Nat → Int) (k : Nat) (v : Int) (i : Nat) : vupd (fun i => .int .u64 (g i)) k (.int .u64 v) i = .int .u64 (iupd g k v i) := by
  unfold vupd iupd; split <;> rfl

theorem Mat.setOther {w : World} {rb cb n : Nat} {G : Nat → Int} (h : Mat w rb cb n G) {a : Addr} (h1 : rb ≠ a.block) (h2 : cb ≠ a.block) (v : Value) : Mat (w.setCell a v) rb cb n G :=
  ⟨h.1.setOther h1 v, h.2.1.setOther h2 v, h.2.2⟩
theorem Mat.set {w : World} {rb cb n : Nat} {G : Nat → Int} (h : Mat w rb cb n G) (p : Nat) (v : Int) : Mat (w.setCell ⟨cb, p, none⟩ (.int .u64 v)) rb cb n (iupd G p v) :=
  ⟨h.1.setOther h.2.2 _, (h.2.1.set p _).congr (fun i _ => upd_u64 G p v i), h.2.2⟩
theorem Flags.setOther {w : World} {fb n : Nat} {F : Nat → Nat → Bool} (h : Flags w fb n F) {a : Addr} (ha : a.block < fb ∨ fb + n < a.block) (v : Value) : Flags (w.setCell a v) fb n F :=
  h.of_blocks (fun i hi => Below.heap_setCell _ _ _ _ (by omega))

namespace Rnd
variable {w : World} {sb : Nat} {b : Rb} {n : Nat} {p0 p1 p2 p3 : Int} {F : Nat → Nat → Bool} {G A L R : Nat → Int}
theorem lt (h : Rnd w sb b n p0 p1 p2 p3 F G A L R) : sb < w.heap.size := (Array.getElem?_eq_some_iff.1 h.self).1
theorem cF (h : Rnd w sb b n p0 p1 p2 p3 F G A L R) : w.cell? ⟨sb, 4, none⟩ = some (.slice (some ⟨b.fb, 0, none⟩) n n) := by simp [World.cell?, h.self]
theorem cG (h : Rnd w sb b n p0 p1 p2 p3 F G A L R) : w.cell? ⟨sb, 5, none⟩ = some (.slice (some ⟨b.gb, 0, none⟩) n n) := by simp [World.cell?, h.self]
theorem cA (h : Rnd w sb b n p0 p1 p2 p3 F G A L R) : w.cell? ⟨sb, 6, none⟩ = some (.slice (some ⟨b.ab, 0, none⟩) n n) := by simp [World.cell?, h.self]
theorem cL (h : Rnd w sb b n p0 p1 p2 p3 F G A L R) : w.cell? ⟨sb, 7, none⟩ = some (.slice (some ⟨b.sl, 0, none⟩) n n) := by simp [World.cell?, h.self]
theorem cR (h : Rnd w sb b n p0 p1 p2 p3 F G A L R) : w.cell? ⟨sb, 8, none⟩ = some (.slice (some ⟨b.rl, 0, none⟩) n n) := by simp [World.cell?, h.self]
theorem setG (h : Rnd w sb b n p0 p1 p2 p3 F G A L R) (p : Nat) (v : Int) : Rnd (w.setCell ⟨b.gc, p, none⟩ (.int .u64 v)) sb b n p0 p1 p2 p3 F (iupd G p v) A L R := by
  obtain ⟨⟨a1, a2, a3, a4, a5, a6, a7⟩, ⟨c1, c2, c3, c4, c5, c6⟩, ⟨d1, d2, d3, d4, d5⟩, e1, e2, e3, e4⟩ := h.apart
  exact ⟨(Below.heap_setCell _ _ _ _ (fun e => a1 e.symm)).trans h.self, h.flags.setOther a7 _, h.grants.set p v, h.allow.setOther (fun e => a3 e.symm) (fun e => a4 e.symm) _,
    h.send.setOther (fun e => a5 e.symm) _, h.recv.setOther (fun e => a6 e.symm) _, h.apart⟩
theorem setA (h : Rnd w sb b n p0 p1 p2 p3 F G A L R) (p : Nat) (v : Int) : Rnd (w.setCell ⟨b.ac, p, none⟩ (.int .u64 v)) sb b n p0 p1 p2 p3 F G (iupd A p v) L R := by
  obtain ⟨⟨a1, a2, a3, a4, a5, a6, a7⟩, ⟨c1, c2, c3, c4, c5, c6⟩, ⟨d1, d2, d3, d4, d5⟩, e1, e2, e3, e4⟩ := h.apart
  exact ⟨(Below.heap_setCell _ _ _ _ (fun e => c1 e.symm)).trans h.self, h.flags.setOther c6 _, h.grants.setOther (fun e => c2 e.symm) a4 _, h.allow.set p v,
    h.send.setOther (fun e => c4 e.symm) _, h.recv.setOther (fun e => c5 e.symm) _, h.apart⟩
theorem setL (h : Rnd w sb b n p0 p1 p2 p3 F G A L R) (p : Nat) (v : Int) : Rnd (w.setCell ⟨b.sl, p, none⟩ (.int .u64 v)) sb b n p0 p1 p2 p3 F G A (iupd L p v) R := by
  obtain ⟨⟨a1, a2, a3, a4, a5, a6, a7⟩, ⟨c1, c2, c3, c4, c5, c6⟩, ⟨d1, d2, d3, d4, d5⟩, e1, e2, e3, e4⟩ := h.apart
  exact ⟨(Below.heap_setCell _ _ _ _ (fun e => d1 e.symm)).trans h.self, h.flags.setOther d5 _, h.grants.setOther (fun e => d2 e.symm) a5 _, h.allow.setOther (fun e => d3 e.symm) c4 _,
    (h.send.set p _).congr (fun i _ => upd_u64 L p v i), h.recv.setOther (fun e => d4 e.symm) _, h.apart⟩
theorem setR (h : Rnd w sb b n p0 p1 p2 p3 F G A L R) (p : Nat) (v : Int) : Rnd (w.setCell ⟨b.rl, p, none⟩ (.int .u64 v)) sb b n p0 p1 p2 p3 F G A L (iupd R p v) := by
  obtain ⟨⟨a1, a2, a3, a4, a5, a6, a7⟩, ⟨c1, c2, c3, c4, c5, c6⟩, ⟨d1, d2, d3, d4, d5⟩, e1, e2, e3, e4⟩ := h.apart
  exact ⟨(Below.heap_setCell _ _ _ _ (fun e => e1 e.symm)).trans h.self, h.flags.setOther e4 _, h.grants.setOther (fun e => e2 e.symm) a6 _, h.allow.setOther (fun e => e3 e.symm) c5 _,
    h.send.setOther d4 _, (h.recv.set p _).congr (fun i _ => upd_u64 R p v i), h.apart⟩
theorem drew (h : Rnd w sb b n p0 p1 p2 p3 F G A L R) : Rnd w.drew sb b n p0 p1 p2 p3 F G A L R := ⟨h.self, h.flags, h.grants, h.allow, h.send, h.recv, h.apart⟩
theorem drewN (h : Rnd w sb b n p0 p1 p2 p3 F G A L R) (q : Nat) : Rnd (w.drewN q) sb b n p0 p1 p2 p3 F G A L R := ⟨h.self, h.flags, h.grants, h.allow, h.send, h.recv, h.apart⟩
theorem congrL (h : Rnd w sb b n p0 p1 p2 p3 F G A L R) {L' R' : Nat → Int} (e1 : ∀ i, i < n → L i = L' i) (e2 : ∀ i, i < n → R i = R' i) : Rnd w sb b n p0 p1 p2 p3 F G A L' R' :=
  ⟨h.self, h.flags, h.grants, h.allow, h.send.congr (fun i hi => by rw [e1 i hi]), h.recv.congr (fun i hi => by rw [e2 i hi]), h.apart⟩
end Rnd

theorem cell_in {i j n : Nat} (hi : i < n) (hj : j < n) : i * n + j < n * n := by
  have : (i + 1) * n ≤ n * n := Nat.mul_le_mul_right n hi
  rw [Nat.succ_mul] at this
  omega

section
variable {w : World} {sb : Nat} {b : Rb} {n : Nat} {p0 p1 p2 p3 : Int} {F : Nat → Nat → Bool} {G A L R : Nat → Int}

theorem sendLeft_any (h : Rnd w sb b n p0 p1 p2 p3 F G A L R) {i : Nat} (hi : i < n) (hn : n ≤ 64) :
    Calls Try.prog 30 #[.pointer (some ⟨sb, 0, none⟩), .int .i64 i] w fun e w' => e = .returned (.int .u64 (L i)) ∧ w' = w := by
  have c1 := h.cL
  have c2 := h.send.cell hi
  clear h
  go_enter Try.func30, Try.ntmps30
  go_wp2
  go_ret
  exact ⟨rfl, rfl⟩
theorem recvLeft_any (h : Rnd w sb b n p0 p1 p2 p3 F G A L R) {i : Nat} (hi : i < n) (hn : n ≤ 64) :
    Calls Try.prog 31 #[.pointer (some ⟨sb, 0, none⟩), .int .i64 i] w fun e w' => e = .returned (.int .u64 (R i)) ∧ w' = w := by
  have c1 := h.cR
  have c2 := h.recv.cell hi
  clear h
  go_enter Try.func31, Try.ntmps31
  go_wp2
  go_ret
  exact ⟨rfl, rfl⟩
theorem grant_any (h : Rnd w sb b n p0 p1 p2 p3 F G A L R) {i j : Nat} (hi : i < n) (hj : j < n) (hn : n ≤ 64) :
    Calls Try.prog 32 #[.pointer (some ⟨sb, 0, none⟩), .int .i64 i, .int .i64 j] w fun e w' => e = .returned (.int .u64 (G (i * n + j))) ∧ w' = w := by
  have c1 := h.cG
  have c2 := h.grants.1.cell hi
  have c3 := h.grants.2.1.cell (cell_in hi hj)
  clear h
  go_enter Try.func32, Try.ntmps32
  go_wp2
  go_ret
  exact ⟨rfl, rfl⟩
theorem allow_any (h : Rnd w sb b n p0 p1 p2 p3 F G A L R) {i j : Nat} (hi : i < n) (hj : j < n) (hn : n ≤ 64) :
    Calls Try.prog 33 #[.pointer (some ⟨sb, 0, none⟩), .int .i64 i, .int .i64 j] w fun e w' => e = .returned (.int .u64 (A (i * n + j))) ∧ w' = w := by
  have c1 := h.cA
  have c2 := h.allow.1.cell hi
  have c3 := h.allow.2.1.cell (cell_in hi hj)
  clear h
  go_enter Try.func33, Try.ntmps33
  go_wp2
  go_ret
  exact ⟨rfl, rfl⟩
theorem forb_any (h : Rnd w sb b n p0 p1 p2 p3 F G A L R) {i j : Nat} (hi : i < n) (hj : j < n) (hn : n ≤ 64) :
    Calls Try.prog 34 #[.pointer (some ⟨sb, 0, none⟩), .int .i64 i, .int .i64 j] w fun e w' => e = .returned (.bool (F i j)) ∧ w' = w := by
  have c1 := h.cF
  have c2 := h.flags.1.cell hi
  have c3 := (h.flags.2 i hi).cell hj
  clear h
  go_enter Try.func34, Try.ntmps34
  go_wp2
  go_ret
  exact ⟨rfl, rfl⟩
theorem setGrant_any (h : Rnd w sb b n p0 p1 p2 p3 F G A L R) {i j : Nat} (hi : i < n) (hj : j < n) (hn : n ≤ 64) (v : Int) :
    Calls Try.prog 35 #[.pointer (some ⟨sb, 0, none⟩), .int .i64 i, .int .i64 j, .int .u64 v] w fun e w' => e = .returned (.tuple #[]) ∧ w' = w.setCell ⟨b.gc, i * n + j, none⟩ (.int .u64 v) := by
  have c1 := h.cG
  have c2 := h.grants.1.cell hi
  have c3 := h.grants.2.1.cell (cell_in hi hj)
  have c4 := h.grants.2.1.frozen (i * n + j)
  clear h
  go_enter Try.func35, Try.ntmps35
  go_wp2
  go_end0
  exact ⟨rfl, rfl⟩
theorem setAllow_any (h : Rnd w sb b n p0 p1 p2 p3 F G A L R) {i j : Nat} (hi : i < n) (hj : j < n) (hn : n ≤ 64) (v : Int) :
    Calls Try.prog 36 #[.pointer (some ⟨sb, 0, none⟩), .int .i64 i, .int .i64 j, .int .u64 v] w fun e w' => e = .returned (.tuple #[]) ∧ w' = w.setCell ⟨b.ac, i * n + j, none⟩ (.int .u64 v) := by
  have c1 := h.cA
  have c2 := h.allow.1.cell hi
  have c3 := h.allow.2.1.cell (cell_in hi hj)
  have c4 := h.allow.2.1.frozen (i * n + j)
  clear h
  go_enter Try.func36, Try.ntmps36
  go_wp2
  go_end0
  exact ⟨rfl, rfl⟩
theorem sizes_any (h : Rnd w sb b n p0 p1 p2 p3 F G A L R) :
    Calls Try.prog 28 #[.pointer (some ⟨sb, 0, none⟩)] w fun e w' => e = .returned (.tuple #[.int .i64 n, .int .i64 n, .int .i64 n, .int .i64 n, .int .i64 n]) ∧ ∃ q, w' = w.drewN q := by
  have c1 := h.cF
  have c2 := h.cG
  have c3 := h.cA
  have c4 := h.cL
  have c5 := h.cR
  clear h
  go_enter Try.func28, Try.ntmps28
  go_wp2
  go_quiet (fail)
  go_wp2
  exact bodyPost_ret (v := .tuple #[.int .i64 n, .int .i64 n, .int .i64 n, .int .i64 n, .int .i64 n]) (by simp [results, Try.results28, go_sem]) rfl ⟨rfl, _, rfl⟩
theorem rowLens_any (h : Rnd w sb b n p0 p1 p2 p3 F G A L R) {i : Nat} (hi : i < n) (hn : n ≤ 64) :
    Calls Try.prog 29 #[.pointer (some ⟨sb, 0, none⟩), .int .i64 i] w fun e w' => e = .returned (.tuple #[.int .i64 n, .int .i64 n, .int .i64 n]) ∧ ∃ q, w' = w.drewN q := by
  have c1 := h.cF
  have c2 := h.cG
  have c3 := h.cA
  have d1 := h.flags.1.cell hi
  have d2 := h.grants.1.cell hi
  have d3 := h.allow.1.cell hi
  have z1 : (i : Int) < (n : Int) := by omega
  clear h
  go_enter Try.func29, Try.ntmps29
  go_wp2
  go_quiet (fail)
  go_wp2
  go_ret3
  exact ⟨rfl, _, rfl⟩
end
end Go.Proofs.Qxb6003691a
