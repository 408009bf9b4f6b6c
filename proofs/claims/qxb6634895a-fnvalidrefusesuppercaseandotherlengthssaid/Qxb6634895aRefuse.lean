/- The law of capitals and other lengths: the walk. -/
import Derived.Test.Qxb6634895aCut
namespace Go.Proofs.Qxb6634895a
open Go.RowKit

theorem upper_from (w0 : World) (s : ByteArray) (w : World) (hs : s.size ≤ 65536) (hb : Below w0.heap.size w0 w) :
    Calls Try.prog 9 #[.string s] w fun e w' => e = .returned (.string (upper s)) ∧ Below w0.heap.size w0 w' :=
  (upper_any s w hs).mono fun _ _ ⟨he, h⟩ => ⟨he, hb.trans (h.mono hb.size)⟩
theorem low_from (w0 : World) (s : ByteArray) (w : World) (hs : s.size ≤ maxLen) (hb : Below w0.heap.size w0 w) :
    Calls Try.prog 10 #[.string s] w fun e w' => e = .returned (.bool (hasLower s)) ∧ Below w0.heap.size w0 w' :=
  (low_any s w hs).mono fun _ _ ⟨he, h⟩ => ⟨he, h ▸ hb⟩

theorem valid_upper_of {v : ByteArray} (h : valid v = true) : valid (upper v) = !hasLower v := by
  rw [valid_upper, h]
  rfl
theorem valid_short {v : ByteArray} (_h : v.size = 40) : valid (v.extract 1 40) = false := valid_other (by
  rw [← nums_length, nums_extract, List.length_take, List.length_drop, nums_length]
  omega)
theorem long_is {v : ByteArray} (h : v.size = 40) : (v ++ ({ data := #[48] } : ByteArray)).size = 41 := by
  rw [ByteArray.size_append, h]
  rfl
theorem valid_long {v : ByteArray} (h : v.size = 40) : valid (v ++ ({ data := #[48] } : ByteArray)) = false := valid_other (by
  rw [long_is h]
  omega)
theorem size_long {v : ByteArray} (h : v.size = 40) : (v ++ ({ data := #[48] } : ByteArray)).size ≤ maxLen := by
  rw [long_is h]
  unfold maxLen
  omega
theorem upper_small {s : ByteArray} (h : s.size ≤ 65536) : (upper s).size ≤ maxLen := by
  rw [upper_size]
  unfold maxLen
  omega

set_option maxRecDepth 100000 in
set_option maxHeartbeats 4000000 in
theorem refuse_any (s : ByteArray) (w : World) (hs : s.size ≤ maxLen) :
    Calls Try.prog 4 #[.string s] w fun e w' => e = .returned (.bool true) ∧ Below w.heap.size w w' := by
  have hs' := hs
  unfold maxLen at hs'
  by_cases h1 : s.size ≤ 1048576
  · by_cases h2 : s.size ≤ 65536
    · have hus := upper_small h2
      have HU := valid_upper s
      go_enter Try.func4, Try.ntmps4
      go_wp2_with (first | (go_at_call 8; refine (bytes8_any s w hs).mono ?_; rintro e w' ⟨rfl, rfl⟩) | (go_at_call 6; refine (hex_any s w hs).mono ?_; rintro e w1 ⟨v, rfl, hv, hb1⟩; have hv40 := valid_size hv; have hvm : v.size ≤ maxLen := Nat.le_trans (Nat.le_of_eq hv40) m40; have hv6 : v.size ≤ 65536 := Nat.le_trans (Nat.le_of_eq hv40) (by decide); have huv := upper_small hv6; have HV := valid_upper_of hv; have e1 := valid_short hv40; have e2 := valid_long hv40; have hvz := size_long hv40) | (go_at_call 9; refine (upper_from w _ _ ?_ ?_).mono ?_; (first | exact h2 | exact hv6); assumption; rintro e w2 ⟨rfl, hb2⟩) | (go_at_call 10; refine (low_from w _ _ ?_ ?_).mono ?_; (first | exact hs | exact hvm); assumption; rintro e w2 ⟨rfl, hb2⟩) | (go_at_call 7; refine (valid_from w _ _ ?_ ?_).mono ?_; (first | exact hs | exact hvm | exact hus | exact huv | exact hvz | (simp [ByteArray.size_extract]; unfold maxLen; omega)); assumption; rintro e w2 ⟨rfl, hb2⟩))
      all_goals (go_ret; refine ⟨ret_bool ?_, hb2⟩; simp_all)
    · go_enter Try.func4, Try.ntmps4
      go_wp2_with (go_at_call 8; refine (bytes8_any s w hs).mono ?_; rintro e w' ⟨rfl, rfl⟩)
      go_ret
      exact ⟨rfl, Below.refl _ _⟩
  · go_enter Try.func4, Try.ntmps4
    go_wp2_with (go_at_call 8; refine (bytes8_any s w hs).mono ?_; rintro e w' ⟨rfl, rfl⟩)
    go_ret
    exact ⟨rfl, Below.refl _ _⟩

end Go.Proofs.Qxb6634895a
