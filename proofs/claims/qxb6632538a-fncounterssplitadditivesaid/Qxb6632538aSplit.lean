/- FnCountersSplitAdditive: the walk. -/
import Derived.Test.Qxb6632538aFresh
namespace Go.Proofs.Qxb6632538a
open Go.RowKit Go.Maps Go.Sort

/-- What the call has gathered: a row of its own, with room. -/
def Gath (w : World) (g k cap : Nat) (xs : List Int) : Prop := w.ownsRow g 2 1 (.slice (some ⟨g, 0, none⟩) k cap) k (xs.map (Value.int .i64))

theorem Gath.row {w : World} {g k cap : Nat} {xs : List Int} (h : Gath w g k cap xs) : Row w (some ⟨g, 0, none⟩) k xs := by
  have hl : xs.length = k := by have := h.1; simpa using this
  refine ⟨hl, fun _ => ⟨g, 0, rfl, fun i hi => ?_⟩⟩
  have := World.ownsRow.cellAt h i (by omega)
  rw [Nat.zero_add, this]
  simp [hl, hi]

theorem Row.spot0 {w : World} {b len : Nat} {zs : List Int} (h : Row w (some ⟨b, 0, none⟩) len zs) {k : Nat} (hk : k < len) : ∃ z, Hid (zs.getD k 0 = z) ∧ w.cell? ⟨b, k, none⟩ = some (.int .i64 z) := by
  obtain ⟨z, h1, h2⟩ := h.spot hk
  exact ⟨z, h1, by simpa using h2⟩

theorem look_run {w : World} {B n : Nat} {D : DataW Unit} (h : Owns w B n D) (c : Int) (hat : D.atKey (kl (zname 11)) (i64 0) = i64 c) :
    (Instr.lookup 28 (.map (some B)) (.string ⟨#[116, 97, 115, 107, 115, 46, 109, 97, 112]⟩) false).run Try.prog w = .ok (.int .i64 c) w := by
  obtain ⟨c', hrun, hat', _⟩ := World.ownsMap.lookup_int h law9 under28 Try.underlying2 (zero2 w) (key_of (zname 11) (zname_size 11))
  have e : c' = c := by
    have e' := hat'.symm.trans hat
    simp only [i64, DataW.lit.injEq, Lit.int.injEq, true_and] at e'
    exact e'
  subst e
  exact hrun

theorem mt_join (s : Int) (a b : List Int) : mt s (a ++ b) = IntKind.i64.wrap (mt s a + mt s b) := by
  rw [mt_append, IntKind.wrap_i64]; rfl

section
variable {w : World} {ops : Array Oper} {rest : List Oper} {o : Oper} {a : Act} {Q : Exit → Act → World → Prop}
theorem wpList_make_gath (hg : o.guard = none) (l c : Operand) (hop : o.op = Op.makeSlice 22 l c) (n : Nat) (kl kc : IntKind) (C : Int) (hl : a.eval l = .int kl 0) (hc : a.eval c = .int kc C) (hC : C = (n : Int)) (hn : n ≤ 1048576)
    (hK : ∀ w', Gath w' w.heap.size 0 n [] → Below w.heap.size w w' → wpList Try.prog ops Q rest (a.put o.dst (.slice (some ⟨w.heap.size, 0, none⟩) 0 n)) w') : wpList Try.prog ops Q (o :: rest) a w := by
  obtain ⟨i0, hi, hz0, hz1, hz2⟩ := info_parts info2
  refine wpList_make_own w hg l c 22 hop w.heap.size 2 i0 _ 1 Try.underlying22 hi hz0 hz1 kl kc C n hl hc hC (by rw [hz2]; omega) (by unfold maxLen; omega) (Nat.le_refl _) ?_
  intro w' hown hgrow
  exact hK w' hown ((Below.refl _ _).grown hgrow (Nat.le_refl _) (fun k hk => by cases hk))

/-- 'ab = append(ab, z)', within the room. -/
theorem wpList_gath (hg : o.guard = none) (s x : Operand) (hop : o.op = Op.call { callee := Callee.builtin Builtin.append, args := #[s, x], argTypes := #[22, 22] }) (g k cap : Nat) (xs : List Int) (z : Int) (hs : a.eval s = .slice (some ⟨g, 0, none⟩) k cap)
    (hx : a.eval x = .slice (some ⟨w.heap.size, 0, none⟩) 1 1) (hown : Gath w g k cap xs) (hk : k < cap)
    (hK : ∀ w', Gath w' g (k + 1) cap (xs ++ [z]) → Below g w w' → wpList Try.prog ops Q rest (a.put o.dst (.slice (some ⟨g, 0, none⟩) (k + 1) cap)) w') : wpList Try.prog ops Q (o :: rest) a (w.alloc (.cells #[.int .i64 z] 2)) := by
  obtain ⟨i0, hi, hz0, hz1, hz2⟩ := info_parts info2
  have hlt : g < w.heap.size := (World.ownsRow.lt hown g rfl).2
  refine wpList_append_fits _ hg s x 22 hop g 2 i0 1 Try.underlying22 hi hz1 g k cap _ hs (World.ownsRow.alloc hown _) ⟨w.heap.size, 0, none⟩ 1 1 [.int .i64 z] hx rfl ?_ (ints_oneCell .i64 [z]) (by omega) ?_
  · exact cell_one_new _ _ _
  · intro w' hown' hgrow
    refine hK w' (by simpa [Gath] using hown') ?_
    exact (((Below.refl g w).alloc (Nat.le_of_lt hlt) _).grown hgrow (by simp; omega) (fun j hj => by cases hj; exact Nat.le_refl _))
end

end Go.Proofs.Qxb6632538a
