/- Plain mathematics for the laws on Below: no Go in sight. -/
namespace Go.Proofs.Qxb6632653a

/-- Every unit is one that the package can hold. -/
def dom (l : List Int) : Bool := l.all (fun z => decide (-2 ≤ z))
theorem dom_snoc (l : List Int) (z : Int) : dom (l ++ [z]) = (dom l && decide (-2 ≤ z)) := by simp [dom]
theorem dom_get {l : List Int} (h : dom l = true) {i : Nat} (hi : i < l.length) : -2 ≤ l.getD i 0 := by
  unfold dom at h
  rw [List.all_eq_true] at h
  have := h (l[i]) (List.getElem_mem hi)
  simp [List.getD, hi] at *; exact this
theorem dom_false {l : List Int} {i : Nat} (hi : i < l.length) (h : l.getD i 0 < -2) : dom l = false := by
  cases hn : dom l with
  | false => rfl
  | true => have := dom_get hn hi; omega

theorem take_snoc (l : List Int) (k : Nat) (h : k < l.length) : l.take (k + 1) = l.take k ++ [l.getD k 0] := by
  rw [List.take_succ_eq_append_getElem h]; simp [List.getD, h]

/-- Does the list end in the separator? -/
def ends (l : List Int) : Bool := l.getLast? == some 47
/-- The span of what lies below. -/
def blw (l : List Int) : List Int := if ends l then l ++ [-2] else l ++ [47, -2]

theorem ends_nil : ends [] = false := rfl
theorem ends_iff {l : List Int} (h : l.length ≠ 0) : ends l = (l.getD (l.length - 1) 0 == 47) := by
  unfold ends
  rw [List.getLast?_eq_getElem?, List.getD_eq_getElem?_getD]
  have : l.length - 1 < l.length := by omega
  simp [this]
theorem ends_append (a : List Int) {b : List Int} (h : b.length ≠ 0) : ends (a ++ b) = ends b := by
  unfold ends
  rw [List.getLast?_append]
  have hb : b ≠ [] := fun e => h (by simp [e])
  rw [List.getLast?_eq_some_getLast hb]
  rfl
theorem blw_append (a : List Int) {b : List Int} (h : b.length ≠ 0) : blw (a ++ b) = a ++ blw b := by
  unfold blw
  rw [ends_append a h]
  split <;> simp
theorem ends_blw (l : List Int) : ends (blw l) = false := by
  unfold blw
  split
  · rw [ends_append _ (by simp)]; decide
  · rw [ends_append _ (by simp)]; decide
theorem blw_blw (l : List Int) : blw (blw l) = blw l ++ [47, -2] := by
  rw [blw, ends_blw]; rfl
theorem blw_length (l : List Int) : (blw l).length = if ends l then l.length + 1 else l.length + 2 := by
  unfold blw; split <;> simp
theorem blw_take (l : List Int) : (blw l).take l.length = l := by
  unfold blw; split <;> simp
theorem blw_bounds (l : List Int) : l.length + 1 ≤ (blw l).length ∧ (blw l).length ≤ l.length + 2 := by
  rw [blw_length]; split <;> omega
theorem blw_two (l : List Int) : 2 ≤ (blw l).length := by
  rw [blw_length]
  split
  · rename_i h
    cases l with
    | nil => cases h
    | cons _ _ => simp
  · omega
/-- The last two units. -/
theorem blw_last (l : List Int) : (blw l).getD ((blw l).length - 1) 0 = -2 := by
  unfold blw; split <;> simp
theorem blw_prev (l : List Int) : (blw l).getD ((blw l).length - 2) 0 = 47 := by
  cases h : ends l with
  | true =>
    have h0 : l.length ≠ 0 := by intro e; rw [List.eq_nil_of_length_eq_zero e] at h; cases h
    have h1 := ends_iff h0
    rw [h] at h1
    have h2 : l.getD (l.length - 1) 0 = 47 := by simpa using h1.symm
    unfold blw
    rw [h, if_pos rfl]
    have e1 : (l ++ [-2]).length - 2 = l.length - 1 := by simp
    rw [e1, List.getD_eq_getElem?_getD, List.getElem?_append_left (by omega), ← List.getD_eq_getElem?_getD]
    exact h2
  | false => unfold blw; rw [h]; simp

/-- What the law writes by hand: the row of its length, s in front, the separator and the run at its end. -/
theorem blw_sets (l : List Int) (r : List Int) (hr : l.length + r.length = (blw l).length) : ((l ++ r).set ((blw l).length - 2) 47).set ((blw l).length - 1) (-2) = blw l := by
  cases h : ends l with
  | true =>
    have h0 : l.length ≠ 0 := by intro e; rw [List.eq_nil_of_length_eq_zero e] at h; cases h
    have hl : (blw l).length = l.length + 1 := by rw [blw_length, h]; rfl
    rw [hl] at hr ⊢
    obtain ⟨y, rfl⟩ : ∃ y, r = [y] := by
      match r, hr with
      | [y], _ => exact ⟨y, rfl⟩
      | [], h => simp at h
      | _ :: _ :: _, h => simp at h
    have h1 := ends_iff h0
    rw [h] at h1
    have h2 : l.getD (l.length - 1) 0 = 47 := by simpa using h1.symm
    have e : (l ++ [y]).set (l.length + 1 - 2) 47 = l ++ [y] := by
      apply List.ext_getElem?
      intro i
      rw [List.getElem?_set]
      split
      · rename_i hi
        rw [List.getD_eq_getElem?_getD] at h2
        have hlt : l.length - 1 < l.length := by omega
        rw [if_pos (by simp; omega), List.getElem?_append_left (by omega), ← hi, show l.length + 1 - 2 = l.length - 1 from by omega, List.getElem?_eq_getElem hlt]
        rw [List.getElem?_eq_getElem hlt] at h2
        simpa using h2.symm
      · rfl
    rw [e]
    unfold blw
    rw [h]
    simp
  | false =>
    have hl : (blw l).length = l.length + 2 := by rw [blw_length, h]; rfl
    rw [hl] at hr ⊢
    obtain ⟨x, y, rfl⟩ : ∃ x y, r = [x, y] := by
      match r, hr with
      | [x, y], _ => exact ⟨x, y, rfl⟩
      | [], h => simp at h
      | [_], h => simp at h
      | _ :: _ :: _ :: _, h => simp at h
    unfold blw
    rw [h]
    simp

end Go.Proofs.Qxb6632653a
