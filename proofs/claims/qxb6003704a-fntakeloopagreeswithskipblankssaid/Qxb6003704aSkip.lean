import Derived.Test.Qxb6003704aTake
import Derived.Deep.LoopGhost
namespace Go.Proofs.Qxb6003704a
open Go.RowKit
set_option linter.unusedVariables false

/-- What is left of s behind its first k bytes. -/
def suf (s : ByteArray) (k : Nat) : ByteArray := s.extract k s.size
/-- The byte at i. -/
def byteAt (s : ByteArray) (i : Nat) : Int := if h : i < s.size then (s[i].toNat : Int) else 0
/-- A space or a tab. -/
def blank (s : ByteArray) (i : Nat) : Prop := byteAt s i = 32 ∨ byteAt s i = 9
/-- The first byte that is no blank stands at k, or there is none and k is the end. -/
def First (s : ByteArray) (k : Nat) : Prop := k ≤ s.size ∧ (∀ i, i < k → blank s i) ∧ (k < s.size → ¬ blank s k)

theorem First.one {s : ByteArray} {k j : Nat} (h : First s k) (g : First s j) : k = j := by
  obtain ⟨h1, h2, h3⟩ := h
  obtain ⟨g1, g2, g3⟩ := g
  rcases Nat.lt_trichotomy k j with h | h | h
  · exact absurd (g2 k h) (h3 (by omega))
  · exact h
  · exact absurd (h2 j h) (g3 (by omega))

theorem suf_zero (s : ByteArray) : suf s 0 = s := by
  unfold suf
  simp
theorem suf_size (s : ByteArray) (k : Nat) : (suf s k).size = s.size - k := by
  unfold suf
  simp [ByteArray.size_extract]
theorem suf_tail (s : ByteArray) (k : Nat) : (suf s k).extract 1 (suf s k).size = suf s (k + 1) := by
  rw [suf_size]
  unfold suf
  rw [ByteArray.extract_extract]
  congr 1
  omega
theorem head_extract (s : ByteArray) (k : Nat) (h : k < s.size) (h0 : 0 < (s.extract k s.size).size) : (s.extract k s.size)[0] = s[k] := by
  rw [ByteArray.getElem_extract]
  simp
theorem suf_head (s : ByteArray) (k : Nat) (h : k < s.size) (h0 : 0 < (suf s k).size) : ((suf s k)[0].toNat : Int) = byteAt s k := by
  unfold byteAt
  rw [dif_pos h]
  exact congrArg (fun x => ((UInt8.toNat x : Nat) : Int)) (head_extract s k h h0)
theorem suf_end (s : ByteArray) : suf s s.size = ByteArray.empty := empty_of (by rw [suf_size]; omega)

theorem takeS_hit (s : ByteArray) (k : Nat) (c : Int) (w : World) (hs : s.size ≤ 9223372036854775807) (h : k < s.size) (hc : byteAt s k = c) :
    Calls Try.prog 8 #[.string (suf s k), .int .u8 c] w fun e w' => e = .returned (.tuple #[.string (suf s (k + 1)), .bool true]) ∧ Grown w w' := by
  have h0 : 0 < (suf s k).size := by rw [suf_size]; omega
  have := take_hit (suf s k) c w (by rw [suf_size]; omega) h0 (by rw [suf_head s k h h0, hc]; simp)
  rw [suf_tail] at this
  exact this
theorem takeS_miss (s : ByteArray) (k : Nat) (c : Int) (w : World) (hs : s.size ≤ 9223372036854775807) (hk : k ≤ s.size) (hc : k < s.size → byteAt s k ≠ c) :
    Calls Try.prog 8 #[.string (suf s k), .int .u8 c] w fun e w' => e = .returned (.tuple #[.string (suf s k), .bool false]) ∧ Grown w w' := by
  by_cases h : k < s.size
  · have h0 : 0 < (suf s k).size := by rw [suf_size]; omega
    exact take_miss (suf s k) c w (by rw [suf_size]; omega) h0 (by rw [suf_head s k h h0]; simpa using hc h)
  · obtain rfl : k = s.size := by omega
    rw [suf_end]
    exact take_none c w

theorem bytes9 (s : ByteArray) (w : World) (h0 : s.size ≤ 9223372036854775807) :
    Calls Try.prog 9 #[.string s] w fun e w' => e = .returned (.bool (decide (s.size ≤ 1048576))) ∧ w' = w := by
  by_cases x0 : s.size ≤ 1048576
  · rw [decide_eq_true x0]
    go_enter Try.func9, Try.ntmps9
    go_wp2
    go_ret
    exact ⟨rfl, rfl⟩
  · rw [decide_eq_false x0]
    go_enter Try.func9, Try.ntmps9
    go_wp2
    go_ret
    exact ⟨rfl, rfl⟩

set_option maxHeartbeats 1000000 in
theorem skip_any (s : ByteArray) (b : Nat) (w0 w : World) (hs : s.size ≤ 9223372036854775807) (hb : w.cell? ⟨b, 0, none⟩ = some (.string s)) (hf : w.frozen? ⟨b, 0, none⟩ = false) (hg : Grown w0 w) (h0 : w0.heap.size ≤ b) :
    Calls Try.prog 18 #[.pointer (some ⟨b, 0, none⟩)] w fun e w' => e = .returned (.tuple #[]) ∧ ∃ k, First s k ∧ w'.cell? ⟨b, 0, none⟩ = some (.string (suf s k)) ∧ Grown w0 w' := by
  go_enter Try.func18, Try.ntmps18
  go_wp2
  go_loopg [] s.size (fun g wr => ∃ k, k + g = s.size ∧ (∀ i, i < k → blank s i) ∧ wr.cell? ⟨b, 0, none⟩ = some (.string (suf s k)) ∧ wr.frozen? ⟨b, 0, none⟩ = false ∧ Grown w0 wr)
  case atStart => exact ⟨0, by omega, fun i hi => absurd hi (by omega), by rw [suf_zero]; exact hb, hf, hg⟩
  case round =>
    clear hb hf hg
    obtain ⟨k, hk, hbl, hc, hf, hg⟩ := hrel
    have HB : Hid (∀ i, i < k → blank s i) := hbl
    have HK : Hid (k + gk = s.size) := hk
    have HG : Hid (Grown w0 wr) := hg
    have hk' : k ≤ s.size := by omega
    clear hbl hk hg
    by_cases hlt : k < s.size
    · have z0 : 0 < (suf s k).size := by rw [suf_size]; omega
      have zs := suf_size s k
      have e1 := toList_ne z0
      have e2 := suf_head s k hlt z0
      have e3 : (suf s k).extract 1 (s.size - k) = suf s (k + 1) := by rw [← zs]; exact suf_tail s k
      have HR : Hid (blank s k → (∀ i, i < k + 1 → blank s i) ∧ (wr.setCell ⟨b, 0, none⟩ (.string (suf s (k + 1)))).cell? ⟨b, 0, none⟩ = some (.string (suf s (k + 1))) ∧ (wr.setCell ⟨b, 0, none⟩ (.string (suf s (k + 1)))).frozen? ⟨b, 0, none⟩ = false ∧ Grown w0 (wr.setCell ⟨b, 0, none⟩ (.string (suf s (k + 1))))) := by
        intro hbk
        refine ⟨fun i hi => ?_, World.cell?_setCell_same _ _ _ hc, ?_, HG.out.setCell h0 _⟩
        · by_cases e : i = k
          · rw [e]; exact hbk
          · exact HB.out i (by omega)
        · simpa using hf
      by_cases c1 : byteAt s k = 32
      · have d1 : (byteAt s k == 32) = true := by simpa using c1
        have HBK : Hid (blank s k) := .inl c1
        clear c1
        go_wp2
        go_roundg (gk - 1)
        case measure => have := HK.out; omega
        case rel => exact ⟨k + 1, by have := HK.out; omega, HR.out HBK.out⟩
      · by_cases c2 : byteAt s k = 9
        · have d1 : (byteAt s k == 32) = false := by simpa using c1
          have d2 : (byteAt s k == 9) = true := by simpa using c2
          have HBK : Hid (blank s k) := .inr c2
          clear c1 c2
          go_wp2
          go_roundg (gk - 1)
          case measure => have := HK.out; omega
          case rel => exact ⟨k + 1, by have := HK.out; omega, HR.out HBK.out⟩
        · have d1 : (byteAt s k == 32) = false := by simpa using c1
          have d2 : (byteAt s k == 9) = false := by simpa using c2
          have HF : Hid (First s k) := ⟨hk', HB.out, fun _ h => by rcases h with h | h; exact c1 h; exact c2 h⟩
          clear c1 c2
          go_wp2
          go_end0
          exact ⟨rfl, _, HF.out, hc, HG.out⟩
    · obtain rfl : k = s.size := by omega
      have HF : Hid (First s s.size) := ⟨Nat.le_refl _, HB.out, fun h => absurd h (by omega)⟩
      rw [suf_end] at hc
      go_wp2
      go_end0
      exact ⟨rfl, _, HF.out, by rw [suf_end]; exact hc, HG.out⟩

theorem zzSkip_any (s : ByteArray) (w : World) (hs : s.size ≤ 9223372036854775807) :
    Calls Try.prog 10 #[.string s] w fun e w' => ∃ k, First s k ∧ e = .returned (.string (suf s k)) ∧ Grown w w' := by
  have c0 : (w.alloc (.cells #[.string s] 36)).cell? ⟨w.heap.size, 0, none⟩ = some (.string s) := by simp
  have f0 : (w.alloc (.cells #[.string s] 36)).frozen? ⟨w.heap.size, 0, none⟩ = false := by simp [go_sem]
  go_enter Try.func10, Try.ntmps10
  go_wp2_with fail
  refine (skip_any s w.heap.size w _ hs c0 f0 ((Grown.refl _).alloc _ _) (Nat.le_refl _)).mono ?_
  rintro e w' ⟨rfl, k, hF, hc, hg⟩
  go_wp2
  go_ret
  exact ⟨k, hF, rfl, hg⟩

/-- The length of a string value. -/
def lenOf : Value → Nat | .string b => b.size | _ => 0

set_option maxHeartbeats 2000000 in
theorem law4_core (s : ByteArray) (w : World) (hs : s.size ≤ 1048576) :
    Calls Try.prog 4 #[.string s] w fun e w' => e = .returned (.bool true) ∧ Grown w w' := by
  have hd : decide (s.size ≤ 1048576) = true := decide_eq_true hs
  go_enter Try.func4, Try.ntmps4
  go_wp2_with (go_at_call 9; refine (bytes9 _ _ (by omega)).mono ?_; rintro e w' ⟨rfl, rfl⟩)
  clear hd
  rw [show decide ((1048576 : Int) < (s.size : Int)) = false from by simp; omega]
  go_loopw [3] (fun v wr => ∃ k : Nat, k ≤ s.size ∧ v = .string (suf s k) ∧ (∀ i, i < k → blank s i) ∧ Grown w' wr) (fun v _ => lenOf v)
  case atStart => exact ⟨0, by omega, by rw [suf_zero], fun i hi => absurd hi (by omega), Grown.refl _⟩
  case round =>
    obtain ⟨k, hk, rfl, hbl, hg⟩ := hrel
    have HB : Hid (∀ i, i < k → blank s i) := hbl
    clear hbl
    have zs := suf_size s k
    have zs1 := suf_size s (k + 1)
    by_cases hlt : k < s.size
    · have HS : Hid (blank s k → ∀ i, i < k + 1 → blank s i) := by
        intro hbk i hi
        by_cases e : i = k
        · rw [e]; exact hbk
        · exact HB.out i (by omega)
      by_cases c1 : byteAt s k = 32
      · go_wp2_with fail
        refine (takeS_hit s k 32 _ (by omega) hlt c1).mono ?_
        rintro e w2 ⟨rfl, g2⟩
        have HG : Hid (Grown w' w2) := Grown.trans hg g2
        have HBK : Hid (blank s k) := .inl c1
        clear hg g2 c1
        go_wp2
        go_roundw
        case rel => exact ⟨k + 1, by omega, rfl, HS.out HBK.out, HG.out⟩
        case measure => simp only [lenOf, suf_size]; omega
      · by_cases c2 : byteAt s k = 9
        · go_wp2_with fail
          refine (takeS_miss s k 32 _ (by omega) hk (fun _ => c1)).mono ?_
          rintro e w2 ⟨rfl, g2⟩
          go_wp2_with fail
          refine (takeS_hit s k 9 _ (by omega) hlt c2).mono ?_
          rintro e w3 ⟨rfl, g3⟩
          have HG : Hid (Grown w' w3) := Grown.trans (Grown.trans hg g2) g3
          have HBK : Hid (blank s k) := .inr c2
          clear hg g2 g3 c1 c2
          go_wp2
          go_roundw
          case rel => exact ⟨k + 1, by omega, rfl, HS.out HBK.out, HG.out⟩
          case measure => simp only [lenOf, suf_size]; omega
        · have HF : Hid (First s k) := ⟨hk, HB.out, fun _ h => by rcases h with h | h; exact c1 h; exact c2 h⟩
          have HM1 : Hid (k < s.size → byteAt s k ≠ 32) := fun _ => c1
          have HM2 : Hid (k < s.size → byteAt s k ≠ 9) := fun _ => c2
          clear c1 c2 HS
          go_wp2_with fail
          refine (takeS_miss s k 32 _ (by omega) hk HM1.out).mono ?_
          rintro e w2 ⟨rfl, g2⟩
          go_wp2_with fail
          refine (takeS_miss s k 9 _ (by omega) hk HM2.out).mono ?_
          rintro e w3 ⟨rfl, g3⟩
          have HG : Hid (Grown w' w3) := Grown.trans (Grown.trans hg g2) g3
          clear hg g2 g3
          go_wp2_with fail
          refine (zzSkip_any s _ (by omega)).mono ?_
          rintro e w4 ⟨j, hF, rfl, g4⟩
          obtain rfl : j = k := hF.one HF.out
          go_wp2_with fail
          refine (takeS_miss s j 32 _ (by omega) hk HM1.out).mono ?_
          rintro e w5 ⟨rfl, g5⟩
          go_wp2_with fail
          refine (takeS_miss s j 9 _ (by omega) hk HM2.out).mono ?_
          rintro e w6 ⟨rfl, g6⟩
          have HG2 : Hid (Grown w' w6) := Grown.trans (Grown.trans (Grown.trans HG.out g4) g5) g6
          clear g4 g5 g6 hF
          go_wp2
          go_ret
          exact ⟨rfl, HG2.out⟩
    · obtain rfl : k = s.size := by omega
      have HF : Hid (First s s.size) := ⟨Nat.le_refl _, HB.out, fun h => absurd h (by omega)⟩
      have HM1 : Hid (s.size < s.size → byteAt s s.size ≠ 32) := fun h => absurd h (by omega)
      have HM2 : Hid (s.size < s.size → byteAt s s.size ≠ 9) := fun h => absurd h (by omega)
      go_wp2_with fail
      refine (zzSkip_any s _ (by omega)).mono ?_
      rintro e w4 ⟨j, hF, rfl, g4⟩
      have ej : j = s.size := hF.one HF.out
      rw [ej]
      clear ej
      go_wp2_with fail
      refine (takeS_miss s s.size 32 _ (by omega) (Nat.le_refl _) HM1.out).mono ?_
      rintro e w5 ⟨rfl, g5⟩
      go_wp2_with fail
      refine (takeS_miss s s.size 9 _ (by omega) (Nat.le_refl _) HM2.out).mono ?_
      rintro e w6 ⟨rfl, g6⟩
      have HG2 : Hid (Grown w' w6) := Grown.trans (Grown.trans (Grown.trans hg g4) g5) g6
      clear g4 g5 g6 hF hg
      go_wp2
      go_ret
      exact ⟨rfl, HG2.out⟩

theorem law4_all (s : ByteArray) (w : World) (hs : s.size ≤ maxLen) :
    Calls Try.prog 4 #[.string s] w fun e w' => e = .returned (.bool true) ∧ Grown w w' := by
  unfold maxLen at hs
  by_cases h : s.size ≤ 1048576
  · exact law4_core s w h
  · have hd : decide (s.size ≤ 1048576) = false := decide_eq_false h
    go_enter Try.func4, Try.ntmps4
    go_wp2_with (go_at_call 9; refine (bytes9 _ _ (by omega)).mono ?_; rintro e w' ⟨rfl, rfl⟩)
    go_ret
    exact ⟨rfl, Grown.refl _⟩
end Go.Proofs.Qxb6003704a
