/- Plain mathematics for the counters' laws: no Go in sight. -/
namespace Go.Proofs.Qxb6632538a

/-- The number of pieces of at most s bytes that cover z bytes. -/
def ceil (s z : Int) : Int := if z = 0 then 0 else (z - 1) / s + 1

/-- Wrapping into int64. -/
def wr (x : Int) : Int := (x + 9223372036854775808) % 18446744073709551616 - 9223372036854775808

/-- No number of the list is negative. -/
def nn (l : List Int) : Bool := l.all (fun z => decide (0 ≤ z))

theorem nn_nil : nn [] = true := rfl
theorem nn_snoc (l : List Int) (z : Int) : nn (l ++ [z]) = (nn l && decide (0 ≤ z)) := by simp [nn]
theorem nn_get {l : List Int} (h : nn l = true) (i : Nat) : 0 ≤ l.getD i 0 := by
  unfold nn at h
  rw [List.all_eq_true] at h
  by_cases hi : i < l.length
  · have := h (l[i]) (List.getElem_mem hi)
    simp [List.getD, hi] at *; exact this
  · simp [List.getD, Nat.not_lt.1 hi]
theorem nn_false {l : List Int} {i : Nat} (h : l.getD i 0 < 0) : nn l = false := by
  cases hn : nn l with
  | false => rfl
  | true => have := nn_get hn i; omega

theorem ceil_bounds {s z : Int} (hs : 0 < s) (hz : 0 ≤ z) : 0 ≤ ceil s z ∧ ceil s z ≤ z := by
  unfold ceil
  split
  · omega
  · have h1 : 0 ≤ (z - 1) / s := Int.ediv_nonneg (by omega) (by omega)
    have h2 : (z - 1) / s ≤ z - 1 := Int.ediv_le_self _ (by omega)
    omega

theorem ceil_splits_even {s z : Int} (hs : 0 < s) (hz : 0 ≤ z) (h : z % s = 0) : z / s = ceil s z := by
  unfold ceil
  have e := Int.mul_ediv_add_emod z s
  rw [h] at e
  split
  · rename_i h0; subst h0; simp
  · have hq : 0 < z / s := by
      rcases Int.lt_or_le 0 (z / s) with h1 | h1
      · exact h1
      · have : s * (z / s) ≤ 0 := Int.mul_nonpos_of_nonneg_of_nonpos (by omega) h1
        omega
    have e2 : z - 1 = s * (z / s - 1) + (s - 1) := by rw [Int.mul_sub]; omega
    have : (z - 1) / s = z / s - 1 := by
      rw [e2, Int.add_comm, Int.add_mul_ediv_left _ _ (by omega : s ≠ 0), Int.ediv_eq_zero_of_lt (by omega) (by omega)]
      omega
    omega

theorem ceil_splits_odd {s z : Int} (hs : 0 < s) (hz : 0 ≤ z) (h : z % s ≠ 0) : z / s + 1 = ceil s z := by
  unfold ceil
  have e := Int.mul_ediv_add_emod z s
  have hr1 := Int.emod_nonneg z (by omega : s ≠ 0)
  have hr2 := Int.emod_lt_of_pos z hs
  split
  · rename_i h0; subst h0; simp at h
  · have e2 : z - 1 = (z % s - 1) + s * (z / s) := by omega
    have : (z - 1) / s = z / s := by
      rw [e2, Int.add_mul_ediv_left _ _ (by omega : s ≠ 0), Int.ediv_eq_zero_of_lt (by omega) (by omega)]
      omega
    omega

/-- The number of map tasks, in int64's own arithmetic. -/
def mt (s : Int) (l : List Int) : Int := l.foldl (fun n z => wr (n + ceil s z)) 0

theorem mt_nil (s : Int) : mt s [] = 0 := rfl
theorem mt_snoc (s : Int) (l : List Int) (z : Int) : mt s (l ++ [z]) = wr (mt s l + ceil s z) := by simp [mt]
theorem take_snoc (l : List Int) (k : Nat) (h : k < l.length) : l.take (k + 1) = l.take k ++ [l.getD k 0] := by
  rw [List.take_succ_eq_append_getElem h]; simp [List.getD, h]
theorem mt_succ (s : Int) (l : List Int) (k : Nat) (h : k < l.length) : mt s (l.take (k + 1)) = wr (mt s (l.take k) + ceil s (l.getD k 0)) := by
  rw [take_snoc l k h, mt_snoc]

theorem wr_wr_left (a b : Int) : wr (wr a + b) = wr (a + b) := by unfold wr; omega
theorem wr_wr_right (a b : Int) : wr (a + wr b) = wr (a + b) := by unfold wr; omega
theorem wr_zero : wr 0 = 0 := by unfold wr; omega
theorem wr_bounds (a : Int) : -9223372036854775808 ≤ wr a ∧ wr a ≤ 9223372036854775807 := by unfold wr; omega

theorem foldl_mt (s : Int) (l : List Int) : ∀ n : Int, l.foldl (fun n z => wr (n + ceil s z)) (wr n) = wr (n + mt s l) := by
  induction l with
  | nil => intro n; simp [mt]
  | cons z l ih =>
    intro n
    have e : mt s (z :: l) = wr (ceil s z + mt s l) := by
      show l.foldl _ (wr (0 + ceil s z)) = _
      rw [ih]; congr 1; omega
    rw [List.foldl_cons, wr_wr_left, ih, e, wr_wr_right]
    congr 1; omega

theorem mt_append (s : Int) (a b : List Int) : mt s (a ++ b) = wr (mt s a + mt s b) := by
  have h := foldl_mt s b (mt s a)
  have hm : wr (mt s a) = mt s a := by
    cases a with
    | nil => simp [mt, wr_zero]
    | cons z l =>
      have : mt s (z :: l) = wr (ceil s z + mt s l) := by
        show l.foldl _ (wr (0 + ceil s z)) = _
        rw [foldl_mt]; congr 1; omega
      rw [this]; unfold wr; omega
  rw [hm] at h
  rw [← h]
  simp [mt]

theorem mt_bounds (s : Int) (l : List Int) : -9223372036854775808 ≤ mt s l ∧ mt s l ≤ 9223372036854775807 := by
  have h := mt_append s [] l
  simp [mt_nil] at h
  rw [h]; exact wr_bounds _

end Go.Proofs.Qxb6632538a
