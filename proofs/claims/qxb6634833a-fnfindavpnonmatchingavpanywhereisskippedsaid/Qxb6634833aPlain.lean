/- Plain mathematics for the laws on FindAVP: no Go in sight. -/
namespace Go.Proofs.Qxb6634833a

/-- The first of a list that a test takes lies in the front, or else is what was put in. -/
theorem find_insert {α : Type} (p : α → Bool) (a b : List α) (x : α) (hx : p x = true) : (a ++ x :: b).find? p = some ((a.find? p).getD x) := by
  rw [List.find?_append]
  cases h : a.find? p with
  | none => simp [hx]
  | some y => simp
theorem find_snoc {α : Type} (p : α → Bool) (a : List α) (x : α) (hx : p x = true) : (a ++ [x]).find? p = some ((a.find? p).getD x) := find_insert p a [] x hx
/-- One that the test does not take makes no difference, wherever it stands. -/
theorem find_decoy {α : Type} (p : α → Bool) (a b : List α) (y : α) (hy : p y = false) : (a ++ y :: b).find? p = (a ++ b).find? p := by
  rw [List.find?_append, List.find?_append, List.find?_cons, hy]

/-- What putting one in at place i gives. -/
def insertAt {α : Type} (l : List α) (i : Nat) (x : α) : List α := l.take i ++ x :: l.drop i
theorem insertAt_length {α : Type} (l : List α) (i : Nat) (x : α) : (insertAt l i x).length = l.length + 1 := by
  unfold insertAt
  rw [List.length_append, List.length_cons, List.length_take, List.length_drop]
  omega
theorem insertAt_end {α : Type} (l : List α) (x : α) : insertAt l l.length x = l ++ [x] := by simp [insertAt]

end Go.Proofs.Qxb6634833a
