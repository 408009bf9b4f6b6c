/- The law of the cut: the walk. -/
import Derived.Test.Qxb6634895aHex
import Derived.Deep.RegionWith
namespace Go.Proofs.Qxb6634895a
open Go.RowKit

theorem m40 : 40 ≤ maxLen := by unfold maxLen; omega
theorem where_is (n : Nat) (i : Int) : i < 0 ∨ (n : Int) < i ∨ ∃ k : Nat, i = (k : Int) ∧ k ≤ n := by
  by_cases h : i < 0
  · exact Or.inl h
  · by_cases h' : (n : Int) < i
    · exact Or.inr (Or.inl h')
    · exact Or.inr (Or.inr ⟨i.toNat, by omega, by omega⟩)
theorem valid_congr {a b : ByteArray} (h : nums a = nums b) : valid a = valid b := by
  unfold valid
  rw [← nums_length, ← nums_length, h]
theorem valid_whole {s : ByteArray} (h : s.size = 40) : valid (s.extract 0 40) = valid s := by
  refine valid_congr ?_
  rw [nums_extract, List.drop_zero, List.take_of_length_le (by rw [nums_length, h]; omega)]
theorem valid_from (w0 : World) (s : ByteArray) (w : World) (hs : s.size ≤ maxLen) (hb : Below w0.heap.size w0 w) :
    Calls Try.prog 7 #[.string s] w fun e w' => e = .returned (.bool (valid s)) ∧ Below w0.heap.size w0 w' :=
  (valid_any s w hs).mono fun _ _ ⟨he, h⟩ => ⟨he, hb.trans (h.mono hb.size)⟩

set_option maxRecDepth 100000 in
set_option maxHeartbeats 4000000 in
theorem cut_other (s : ByteArray) (i : Int) (w : World) (hs : s.size ≤ maxLen) (h40 : ¬s.size = 40) :
    Calls Try.prog 3 #[.string s, .int .i64 i] w fun e w' => e = .returned (.bool true) ∧ Below w.heap.size w w' := by
  have hs' := hs
  unfold maxLen at hs'
  have hvs := valid_other h40
  have hq0 : (0 : Int) ≤ (s.size : Int) := by omega
  by_cases h1 : s.size ≤ 1048576
  · by_cases h2 : s.size ≤ 65536
    · rcases where_is s.size i with hi | hi | ⟨k, rfl, hk⟩
      · go_enter Try.func3, Try.ntmps3
        go_wp2_with (first | (go_at_call 5; refine (bytes5_any s i w hs).mono ?_; rintro e w' ⟨rfl, rfl⟩) | (go_at_call 6; refine (hex_any s w hs).mono ?_; rintro e w1 ⟨v, rfl, hv, hb1⟩; have hv40 := valid_size hv; have hvm : v.size ≤ maxLen := Nat.le_trans (Nat.le_of_eq hv40) m40) | (go_at_call_of 7 (Value.string s); refine (valid_from w s w1 hs hb1).mono ?_; rintro e w2 ⟨rfl, hb2⟩) | (go_at_call_of 7 (Value.string v); refine (valid_from w v w2 hvm hb2).mono ?_; rintro e w3 ⟨rfl, hb3⟩))
        all_goals (go_ret; exact ⟨rfl, hb3⟩)
      · go_enter Try.func3, Try.ntmps3
        go_wp2_with (first | (go_at_call 5; refine (bytes5_any s i w hs).mono ?_; rintro e w' ⟨rfl, rfl⟩) | (go_at_call 6; refine (hex_any s w hs).mono ?_; rintro e w1 ⟨v, rfl, hv, hb1⟩; have hv40 := valid_size hv; have hvm : v.size ≤ maxLen := Nat.le_trans (Nat.le_of_eq hv40) m40) | (go_at_call_of 7 (Value.string s); refine (valid_from w s w1 hs hb1).mono ?_; rintro e w2 ⟨rfl, hb2⟩) | (go_at_call_of 7 (Value.string v); refine (valid_from w v w2 hvm hb2).mono ?_; rintro e w3 ⟨rfl, hb3⟩))
        all_goals (go_ret; exact ⟨rfl, hb3⟩)
      · go_enter Try.func3, Try.ntmps3
        go_wp2_with (first | (go_at_call 5; refine (bytes5_any s k w hs).mono ?_; rintro e w' ⟨rfl, rfl⟩) | (go_at_call 6; refine (hex_any s w hs).mono ?_; rintro e w1 ⟨v, rfl, hv, hb1⟩; have hv40 := valid_size hv; have hvm : v.size ≤ maxLen := Nat.le_trans (Nat.le_of_eq hv40) m40) | (go_at_call_of 7 (Value.string s); refine (valid_from w s w1 hs hb1).mono ?_; rintro e w2 ⟨rfl, hb2⟩) | (go_at_call_of 7 (Value.string v); refine (valid_from w v w2 hvm hb2).mono ?_; rintro e w3 ⟨rfl, hb3⟩))
        all_goals (go_ret; exact ⟨rfl, hb3⟩)
    · go_enter Try.func3, Try.ntmps3
      go_wp2_with (go_at_call 5; refine (bytes5_any s i w hs).mono ?_; rintro e w' ⟨rfl, rfl⟩)
      go_ret
      exact ⟨rfl, Below.refl _ _⟩
  · go_enter Try.func3, Try.ntmps3
    go_wp2_with (go_at_call 5; refine (bytes5_any s i w hs).mono ?_; rintro e w' ⟨rfl, rfl⟩)
    go_ret
    exact ⟨rfl, Below.refl _ _⟩

set_option maxRecDepth 100000 in
set_option maxHeartbeats 4000000 in
theorem cut_forty (s : ByteArray) (i : Int) (w : World) (h40 : s.size = 40) :
    Calls Try.prog 3 #[.string s, .int .i64 i] w fun e w' => e = .returned (.bool true) ∧ Below w.heap.size w w' := by
  have hs : s.size ≤ maxLen := Nat.le_trans (Nat.le_of_eq h40) m40
  rcases where_is 40 i with hi | hi | ⟨k, rfl, hk⟩
  · go_enter Try.func3, Try.ntmps3
    go_wp2_with (first | (go_at_call 5; refine (bytes5_any s i w hs).mono ?_; rintro e w' ⟨rfl, rfl⟩) | (go_at_call 6; refine (hex_any s w hs).mono ?_; rintro e w1 ⟨v, rfl, hv, hb1⟩; have hv40 := valid_size hv; have hvm : v.size ≤ maxLen := Nat.le_trans (Nat.le_of_eq hv40) m40) | (go_at_call 7; refine (valid_from w _ _ ?_ ?_).mono ?_; (first | exact hs | exact hvm | (simp [ByteArray.size_extract]; unfold maxLen; omega)); assumption; rintro e w2 ⟨rfl, hb2⟩))
    all_goals
      go_ret
      refine ⟨ret_bool ?_, hb2⟩
      have e1 := valid_whole h40
      have e2 := valid_whole hv40
      simp_all
  · go_enter Try.func3, Try.ntmps3
    go_wp2_with (first | (go_at_call 5; refine (bytes5_any s i w hs).mono ?_; rintro e w' ⟨rfl, rfl⟩) | (go_at_call 6; refine (hex_any s w hs).mono ?_; rintro e w1 ⟨v, rfl, hv, hb1⟩; have hv40 := valid_size hv; have hvm : v.size ≤ maxLen := Nat.le_trans (Nat.le_of_eq hv40) m40) | (go_at_call 7; refine (valid_from w _ _ ?_ ?_).mono ?_; (first | exact hs | exact hvm | (simp [ByteArray.size_extract]; unfold maxLen; omega)); assumption; rintro e w2 ⟨rfl, hb2⟩))
    all_goals
      go_ret
      refine ⟨ret_bool ?_, hb2⟩
      have e1 := valid_whole h40
      have e2 := valid_whole hv40
      simp_all
  · go_enter Try.func3, Try.ntmps3
    go_wp2_with (first | (go_at_call 5; refine (bytes5_any s k w hs).mono ?_; rintro e w' ⟨rfl, rfl⟩) | (go_at_call 6; refine (hex_any s w hs).mono ?_; rintro e w1 ⟨v, rfl, hv, hb1⟩; have hv40 := valid_size hv; have hvm : v.size ≤ maxLen := Nat.le_trans (Nat.le_of_eq hv40) m40) | (go_at_call 7; refine (valid_from w _ _ ?_ ?_).mono ?_; (first | exact hs | exact hvm | (simp [ByteArray.size_append, ByteArray.size_extract]; unfold maxLen; omega)); assumption; rintro e w2 ⟨rfl, hb2⟩))
    all_goals
      go_ret
      refine ⟨ret_bool ?_, hb2⟩
      have e3 := valid_cut s v k h40 (by omega) hv
      rw [hv40, h40] at e3
      have e4 : 40 - (40 - k) = k := by omega
      simp_all

/-- The law's own function answers true, whatever it is given. -/
theorem cut_any (s : ByteArray) (i : Int) (w : World) (hs : s.size ≤ maxLen) :
    Calls Try.prog 3 #[.string s, .int .i64 i] w fun e w' => e = .returned (.bool true) ∧ Below w.heap.size w w' := by
  by_cases h : s.size = 40
  · exact cut_forty s i w h
  · exact cut_other s i w hs h

end Go.Proofs.Qxb6634895a
