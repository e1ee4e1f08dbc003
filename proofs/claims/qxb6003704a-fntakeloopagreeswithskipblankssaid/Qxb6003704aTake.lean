import Derived.Test.Qxb6003704aRows
import Derived.WalkKit
import Derived.WalkSpells
import Derived.WalkLawsBesides
namespace Go.Proofs.Qxb6003704a
open Go.RowKit
set_option linter.unusedVariables false

theorem toList_ne {s : ByteArray} (h : 0 < s.size) : s.toList.isEmpty = false := by
  cases e : s.toList with
  | nil =>
    rw [toList_nil_iff_emptyBytes] at e
    rw [e] at h
    exact absurd h (by decide)
  | cons => rfl

set_option maxHeartbeats 400000 in
theorem take_none (c : Int) (w : World) :
    Calls Try.prog 8 #[.string ByteArray.empty, .int .u8 c] w fun e w' => e = .returned (.tuple #[.string ByteArray.empty, .bool false]) ∧ Grown w w' := by
  go_enter Try.func8, Try.ntmps8
  go_wp2
  go_ret2
  exact ⟨rfl, by repeat (first | exact Grown.refl _ | apply Grown.drew | apply Grown.alloc)⟩

set_option maxHeartbeats 400000 in
theorem take_miss (s : ByteArray) (c : Int) (w : World) (hs : s.size ≤ 9223372036854775807) (h0 : 0 < s.size) (h : ((s[0].toNat : Int) != c) = true) :
    Calls Try.prog 8 #[.string s, .int .u8 c] w fun e w' => e = .returned (.tuple #[.string s, .bool false]) ∧ Grown w w' := by
  have hne := toList_ne h0
  go_enter Try.func8, Try.ntmps8
  go_wp2
  go_ret2
  exact ⟨rfl, by repeat (first | exact Grown.refl _ | apply Grown.drew | apply Grown.alloc)⟩

set_option maxHeartbeats 400000 in
theorem take_hit (s : ByteArray) (c : Int) (w : World) (hs : s.size ≤ 9223372036854775807) (h0 : 0 < s.size) (h : ((s[0].toNat : Int) != c) = false) :
    Calls Try.prog 8 #[.string s, .int .u8 c] w fun e w' => e = .returned (.tuple #[.string (s.extract 1 s.size), .bool true]) ∧ Grown w w' := by
  have hne := toList_ne h0
  go_enter Try.func8, Try.ntmps8
  go_wp2
  go_ret2
  exact ⟨rfl, by repeat (first | exact Grown.refl _ | apply Grown.drew | apply Grown.alloc)⟩

theorem bytes7 (s : ByteArray) (c : Int) (w : World) (h0 : s.size ≤ 9223372036854775807) :
    Calls Try.prog 7 #[.string s, .int .u8 c] w fun e w' => e = .returned (.bool (decide (s.size ≤ 1048576))) ∧ w' = w := by
  by_cases x0 : s.size ≤ 1048576
  · rw [decide_eq_true x0]
    go_enter Try.func7, Try.ntmps7
    go_wp2
    go_ret
    exact ⟨rfl, rfl⟩
  · rw [decide_eq_false x0]
    go_enter Try.func7, Try.ntmps7
    go_wp2
    go_ret
    exact ⟨rfl, rfl⟩

/-- The string of the one byte c. -/
def one (c : Int) : ByteArray := ByteArray.empty.push (UInt8.ofNat c.toNat)
theorem one_size (c : Int) : (one c).size = 1 := rfl
theorem byte_back (c : Int) (c0 : 0 ≤ c) (c1 : c ≤ 255) : ((UInt8.ofNat c.toNat).toNat : Int) = c := by
  rw [UInt8.toNat_ofNat']
  omega
theorem one_data (c : Int) : (one c).data = #[UInt8.ofNat c.toNat] := rfl
theorem one_tail (c : Int) (s : ByteArray) : (one c ++ s).extract 1 (one c ++ s).size = s := by
  apply ByteArray.ext
  rw [ByteArray.data_extract, ByteArray.size_append, ByteArray.data_append, one_data, one_size]
  apply Array.ext'
  rw [Array.toList_extract, List.extract_eq_take_drop]
  have : s.data.toList.length = s.size := by simp
  simp
  rw [← this, List.take_length]
theorem hd_tl (l : List UInt8) (h : 0 < l.length) (n : Nat) (hn : n = l.length) : [l[0]] ++ (l.drop 1).take (n - 1) = l := by
  subst hn
  cases l with
  | nil => simp at h
  | cons x xs => simp
theorem empty_of {s : ByteArray} (h : ¬ 0 < s.size) : s = ByteArray.empty := by
  apply ByteArray.ext
  have : s.data.size = 0 := by show s.size = 0; omega
  exact Array.eq_empty_of_size_eq_zero this
theorem one_back (c : Int) (s : ByteArray) (h0 : 0 < s.size) (h : ((s[0].toNat : Int) != c) = false) : one c ++ s.extract 1 s.size = s := by
  have hc : (s[0].toNat : Int) = c := by simpa using h
  have hb : UInt8.ofNat c.toNat = s[0] := by
    rw [← hc]
    simp
  apply ByteArray.ext
  rw [ByteArray.data_append, ByteArray.data_extract, one_data, hb]
  apply Array.ext'
  rw [Array.toList_append, Array.toList_extract, List.extract_eq_take_drop]
  have hl : s.data.toList.length = s.size := by simp
  have he : s[0] = s.data.toList[0]'(by omega) := by simp [ByteArray.getElem_eq_getElem_data]
  have key := hd_tl s.data.toList (by omega) s.size hl.symm
  rw [he]
  exact key

theorem conv_one (c : Int) (w : World) : (convert 23 9 (.slice (some ⟨w.heap.size, 0, none⟩) 1 1)).run Try.prog (w.alloc (.cells #[.int .u8 c] 5)) = .ok (.string (one c)) (w.alloc (.cells #[.int .u8 c] 5)) := by
  rw [run_convert_bytes_string _ 23 9 5 _ _ _ Try.underlying23 Try.underlying5 Try.underlying9]
  have := run_bytesToString (P := Try.prog) (w.alloc (.cells #[.int .u8 c] 5)) ⟨w.heap.size, 0, none⟩ 1 1 [c] (by simp [go_sem])
  exact this

theorem one_head (c : Int) (s : ByteArray) (c0 : 0 ≤ c) (c1 : c ≤ 255) (h : 0 < (one c ++ s).size) : (((one c ++ s)[0].toNat : Int) != c) = false := by
  have e : (one c ++ s)[0] = UInt8.ofNat c.toNat := by
    rw [ByteArray.getElem_append_left (by rw [one_size]; omega)]
    rfl
  rw [e, byte_back c c0 c1]
  simp

theorem Grown.trans {a b c : World} (h : Grown a b) (k : Grown b c) : Grown a c := by
  refine ⟨World.keptBut_trans h.1 k.1, fun x => (k.2.1 x).trans (h.2.1 x), Nat.le_trans h.2.2 k.2.2⟩

set_option maxHeartbeats 1000000 in
theorem law3_core (s : ByteArray) (c : Int) (w : World) (hs : s.size ≤ 1048576) (c0 : 0 ≤ c) (c1 : c ≤ 255) :
    Calls Try.prog 3 #[.string s, .int .u8 c] w fun e w' => e = .returned (.bool true) ∧ Grown w w' := by
  have hd : decide (s.size ≤ 1048576) = true := decide_eq_true hs
  have hcv := conv_one c
  have h1 := one_size c
  have hz : (one c ++ s).size = 1 + s.size := by rw [ByteArray.size_append, one_size]
  have hp : 0 < (one c ++ s).size := by omega
  have hh := one_head c s c0 c1 hp
  have T1 := fun w => take_hit (one c ++ s) c w (by omega) hp hh
  rw [one_tail] at T1
  have TH : Hid (∀ w, _) := T1
  clear T1 hh hp hz
  go_enter Try.func3, Try.ntmps3
  go_wp2_with (go_at_call 7; refine (bytes7 _ _ _ (by omega)).mono ?_; rintro e w' ⟨rfl, rfl⟩)
  clear hd
  go_wp2_with fail
  refine (TH.out _).mono ?_
  rintro e w2 ⟨rfl, g2⟩
  have G2 : Hid (Grown w' w2) := Grown.trans ((Grown.refl _).alloc _ _) g2
  clear g2 hcv TH
  by_cases h0 : 0 < s.size
  · cases hc : ((s[0].toNat : Int) != c)
    · have E := one_back c s h0 hc
      have hx : (s.extract 1 s.size).size = s.size - 1 := by simp [ByteArray.size_extract]
      have EH : Hid (one c ++ s.extract 1 s.size = s) := E
      clear E
      go_wp2_with fail
      refine (take_hit s c _ (by omega) h0 hc).mono ?_
      rintro e w3 ⟨rfl, g3⟩
      go_wp2
      go_ret
      exact ⟨congrArg (fun b => Ending.returned (Value.bool b)) (by rw [EH.out]; simp), Grown.trans G2.out g3⟩
    · go_wp2_with fail
      refine (take_miss s c _ (by omega) h0 hc).mono ?_
      rintro e w3 ⟨rfl, g3⟩
      go_wp2
      all_goals go_ret
      all_goals exact ⟨rfl, Grown.trans G2.out g3⟩
  · obtain rfl : s = ByteArray.empty := empty_of h0
    go_wp2_with fail
    refine (take_none c _).mono ?_
    rintro e w3 ⟨rfl, g3⟩
    go_wp2
    go_ret
    exact ⟨rfl, Grown.trans G2.out g3⟩

theorem law3_all (s : ByteArray) (c : Int) (w : World) (hs : s.size ≤ maxLen) (c0 : 0 ≤ c) (c1 : c ≤ 255) :
    Calls Try.prog 3 #[.string s, .int .u8 c] w fun e w' => e = .returned (.bool true) ∧ Grown w w' := by
  unfold maxLen at hs
  by_cases h : s.size ≤ 1048576
  · exact law3_core s c w h c0 c1
  · have hd : decide (s.size ≤ 1048576) = false := decide_eq_false h
    go_enter Try.func3, Try.ntmps3
    go_wp2_with (go_at_call 7; refine (bytes7 _ _ _ (by omega)).mono ?_; rintro e w' ⟨rfl, rfl⟩)
    go_ret
    exact ⟨rfl, Grown.refl _⟩
end Go.Proofs.Qxb6003704a
