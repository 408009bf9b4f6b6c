/- Plain mathematics for the laws on Valid: strings as rows of numbers. -/
import Derived.Laws.BytesArg
namespace Go.Proofs.Qxb6634895a

/-- The bytes of a string, as numbers. -/
def nums (s : ByteArray) : List Int := s.data.toList.map fun b => (b.toNat : Int)
theorem nums_length (s : ByteArray) : (nums s).length = s.size := by
  unfold nums
  rw [List.length_map]
  exact Array.length_toList
theorem nums_range (s : ByteArray) (x : Int) (h : x ∈ nums s) : 0 ≤ x ∧ x < 256 := by
  obtain ⟨b, _, rfl⟩ := List.mem_map.1 h
  have := b.toNat_lt
  omega
theorem nums_getD (s : ByteArray) (k : Nat) : 0 ≤ (nums s).getD k 0 ∧ (nums s).getD k 0 < 256 := by
  by_cases h : k < (nums s).length
  · have e : (nums s).getD k 0 = (nums s)[k] := by simp [List.getD, h]
    rw [e]
    exact nums_range s _ (List.getElem_mem h)
  · rw [List.getD_eq_getElem?_getD, List.getElem?_eq_none (by omega)]; decide
theorem nums_at (s : ByteArray) (k : Nat) (h : k < s.data.size) : ((s.data[k].toNat : Nat) : Int) = (nums s).getD k 0 := by
  rw [List.getD_eq_getElem?_getD]
  unfold nums
  rw [List.getElem?_map, Array.getElem?_toList, Array.getElem?_eq_getElem h]
  rfl
theorem nums_strOf (xs : List Int) (h : ∀ x ∈ xs, 0 ≤ x ∧ x < 256) : nums (strOfNums xs) = xs := by
  unfold nums
  rw [strOfNums_data, List.map_map]
  conv => rhs; rw [← List.map_id xs]
  refine List.map_congr_left fun x hx => ?_
  obtain ⟨h0, h1⟩ := h x hx
  simp only [Function.comp, UInt8.toNat_ofNat', id]
  omega
theorem nums_append (a b : ByteArray) : nums (a ++ b) = nums a ++ nums b := by
  simp [nums]
theorem nums_extract (s : ByteArray) (i j : Nat) : nums (s.extract i j) = ((nums s).drop i).take (j - i) := by
  simp [nums, List.map_drop, List.map_take]

/-- A digit of a lower-case hexadecimal text. -/
def hexb (z : Int) : Bool := (decide (48 ≤ z) && decide (z ≤ 57)) || (decide (97 ≤ z) && decide (z ≤ 102))
/-- What Valid answers. -/
def valid (s : ByteArray) : Bool := decide (s.size = 40) && (nums s).all hexb
/-- A lower-case letter. -/
def lowb (z : Int) : Bool := decide (97 ≤ z) && decide (z ≤ 122)
def hasLower (s : ByteArray) : Bool := (nums s).any lowb
def upb (z : Int) : Int := if lowb z then z - 32 else z
def upper (s : ByteArray) : ByteArray := strOfNums ((nums s).map upb)

theorem upb_range {z : Int} (h : 0 ≤ z ∧ z < 256) : 0 ≤ upb z ∧ upb z < 256 := by
  unfold upb lowb
  split
  · rename_i h1
    simp at h1
    omega
  · exact h
theorem nums_upper (s : ByteArray) : nums (upper s) = (nums s).map upb := by
  unfold upper
  refine nums_strOf _ fun x hx => ?_
  obtain ⟨z, hz, rfl⟩ := List.mem_map.1 hx
  exact upb_range (nums_range s z hz)
theorem upper_size (s : ByteArray) : (upper s).size = s.size := by
  rw [← nums_length, nums_upper, List.length_map, nums_length]

theorem hexb_up (z : Int) : hexb (upb z) = (hexb z && !lowb z) := by
  unfold upb
  cases h : lowb z with
  | false => simp
  | true =>
    simp only [if_true, Bool.not_true, Bool.and_false]
    unfold lowb at h
    simp at h
    unfold hexb
    simp
    omega
theorem all_up (l : List Int) : (l.map upb).all hexb = (l.all hexb && !l.any lowb) := by
  induction l with
  | nil => rfl
  | cons z l ih =>
    rw [List.map_cons, List.all_cons, ih, hexb_up, List.all_cons, List.any_cons]
    cases hexb z <;> cases lowb z <;> cases l.all hexb <;> cases l.any lowb <;> rfl
/-- The law of capitals: the capitals of a text are valid just where the text is and has no lower-case letter. -/
theorem valid_upper (s : ByteArray) : valid (upper s) = (valid s && !hasLower s) := by
  unfold valid hasLower
  rw [upper_size, nums_upper, all_up, Bool.and_assoc]
theorem valid_other {s : ByteArray} (h : s.size ≠ 40) : valid s = false := by simp [valid, h]
theorem valid_size {s : ByteArray} (h : valid s = true) : s.size = 40 := by
  unfold valid at h
  simp at h
  exact h.1
/-- The law of the cut: a text of forty bytes is valid just where both of its parts are, each made up to forty by a valid text. -/
theorem valid_cut (s v : ByteArray) (k : Nat) (hs : s.size = 40) (hk : k ≤ s.size) (hv : valid v = true) :
    valid s = (valid (s.extract 0 k ++ v.extract k v.size) && valid (v.extract 0 k ++ s.extract k s.size)) := by
  have hvs := valid_size hv
  have hva : (nums v).all hexb = true := by unfold valid at hv; simp at hv; simpa using hv.2
  have l1 := nums_length s
  have l2 := nums_length v
  have e1 : (s.extract 0 k ++ v.extract k v.size).size = 40 := by
    rw [← nums_length, nums_append, nums_extract, nums_extract]
    simp
    omega
  have e2 : (v.extract 0 k ++ s.extract k s.size).size = 40 := by
    rw [← nums_length, nums_append, nums_extract, nums_extract]
    simp
    omega
  unfold valid
  rw [e1, e2, hs, nums_append, nums_append, nums_extract, nums_extract, nums_extract, nums_extract]
  have t1 : ((nums v).drop k).all hexb = true := List.all_eq_true.2 fun x hx => List.all_eq_true.1 hva x (List.mem_of_mem_drop hx)
  have t2 : ((nums v).take k).all hexb = true := List.all_eq_true.2 fun x hx => List.all_eq_true.1 hva x (List.mem_of_mem_take hx)
  have s0 : (nums s).all hexb = (((nums s).take k).all hexb && ((nums s).drop k).all hexb) := by
    rw [← List.all_append, List.take_append_drop]
  have u1 : ((nums v).drop k).take (v.size - k) = (nums v).drop k := List.take_of_length_le (by rw [List.length_drop]; omega)
  have u2 : ((nums s).drop k).take (40 - k) = (nums s).drop k := List.take_of_length_le (by rw [List.length_drop]; omega)
  rw [u1, u2, List.all_append, List.all_append, List.drop_zero, List.drop_zero, Nat.sub_zero, t1, t2, s0]
  simp

end Go.Proofs.Qxb6634895a
