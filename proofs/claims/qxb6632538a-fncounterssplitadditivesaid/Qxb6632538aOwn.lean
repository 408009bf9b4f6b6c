/- Rows of int64 that the call makes: make, copy, append; each as a law for the walk. -/
import Derived.Test.Qxb6632538aLeaf2
import Derived.Laws.CopyOwn
namespace Go.Proofs.Qxb6632538a
open Go.RowKit

theorem info2 : (Try.prog.info? 2).map (fun i => (i.zero, i.size, i.bytes)) = some (some (.int .i64 0), 1, 8) := by kernel_rfl
theorem size2 : (Try.prog.info? 2).map (·.size) = some 1 := by kernel_rfl

/-- Block g is a row of n zeros. -/
def Zeros (w : World) (g n : Nat) : Prop := w.heap[g]? = some (.cells (List.replicate n (.int .i64 0)).toArray 2 (0, 0))

theorem row_of_block {w : World} {g : Nat} {zs : List Int} (h : w.heap[g]? = some (.cells (zs.map (Value.int .i64)).toArray 2 (0, 0))) : Row w (some ⟨g, 0, none⟩) zs.length zs := by
  refine ⟨rfl, fun _ => ⟨g, 0, rfl, fun i hi => ?_⟩⟩
  rw [cell_of_row w g _ _ 2 (0, 0) h]
  simp [hi]

theorem Row.below {w w' : World} {B : Nat} {a : Option Addr} {len : Nat} {zs : List Int} (h : Row w a len zs) (hb : Below B w w') (ha : ∀ x, a = some x → x.block < B) : Row w' a len zs := by
  refine ⟨h.1, fun h0 => ?_⟩
  obtain ⟨b, off, rfl, hc⟩ := h.2 h0
  exact ⟨b, off, rfl, fun i hi => by rw [hb.cell (p := ⟨b, off + i, none⟩) (ha ⟨b, off, none⟩ rfl)]; exact hc i hi⟩

/-- The same where the address need not lie low unless there is an element. -/
theorem Row.later {w w' : World} {a : Option Addr} {len : Nat} {zs : List Int} (h : Row w a len zs) (hb : Below w.heap.size w w') : Row w' a len zs := by
  refine ⟨h.1, fun h0 => ?_⟩
  obtain ⟨b, off, rfl, hc⟩ := h.2 h0
  exact ⟨b, off, rfl, fun i hi => by rw [hb.cell (p := ⟨b, off + i, none⟩) (block_lt_of_cell (hc i hi))]; exact hc i hi⟩

section
variable {w : World} {ops : Array Oper} {rest : List Oper} {o : Oper} {a : Act} {Q : Exit → Act → World → Prop}

theorem wpList_make_row (hg : o.guard = none) (l c : Operand) (hop : o.op = Op.makeSlice 22 l c) (n : Nat) (kl kc : IntKind) (L C : Int) (hl : a.eval l = .int kl L) (hc : a.eval c = .int kc C) (hL : L = (n : Int)) (hC : C = (n : Int)) (hn : n ≤ 1048576)
    (hK : ∀ w', Zeros w' w.heap.size n → Below w.heap.size w w' → wpList Try.prog ops Q rest (a.put o.dst (.slice (some ⟨w.heap.size, 0, none⟩) n n)) w') : wpList Try.prog ops Q (o :: rest) a w := by
  obtain ⟨i0, hi, hz0, hz1, hz2⟩ := info_parts info2
  refine wpList_make_full w hg l c 22 hop w.heap.size 2 i0 _ 1 Try.underlying22 hi hz0 hz1 kl kc L C n hl hc hL hC (by rw [hz2]; omega) (by unfold maxLen; omega) (Nat.le_refl _) ?_
  intro w' hown hgrow
  refine hK w' ?_ ((Below.refl _ _).grown hgrow (Nat.le_refl _) (fun k hk => by cases hk))
  obtain ⟨_, h2⟩ := hown
  rcases h2 with ⟨h2, _⟩ | ⟨g', cap, cur, hv, _, hh, _, _, hsz, ht⟩
  · cases h2
  · simp only [Value.slice.injEq, Option.some.injEq, Addr.mk.injEq, and_true, true_and] at hv
    obtain ⟨hv1, hv2⟩ := hv
    subst hv2
    rw [← hv1] at hh
    unfold Zeros
    rw [hh]
    rw [List.take_of_length_le (by simp [hsz])] at ht
    have hcur : cur = (List.replicate n (.int .i64 0)).toArray := by
      apply Array.toList_inj.1
      rw [ht, show (Value.int IntKind.i64 0).cells = #[.int .i64 0] from rfl, Nat.mul_one, toList_madeCells_one]
    rw [hcur]

theorem wpList_copy_row (hg : o.guard = none) (d s : Operand) (hop : o.op = .call { callee := .builtin .copy, args := #[d, s], argTypes := #[22, 22] }) (g n : Nat) (sa : Option Addr) (scap : Nat) (hd : a.eval d = .slice (some ⟨g, 0, none⟩) n n) (hs : a.eval s = .slice sa n scap)
    (zs : List Int) (hz : Zeros w g n) (hr : Row w sa n zs) (hK : ∀ w', Row w' (some ⟨g, 0, none⟩) n zs → Below g w w' → wpList Try.prog ops Q rest (a.put o.dst (.int .i64 n)) w') : wpList Try.prog ops Q (o :: rest) a w := by
  have hlen := hr.len
  refine wpList_copy_splice hg d s 22 22 hop 2 Try.underlying22 size2 (some ⟨g, 0, none⟩) sa n n n scap hd hs g 0 _ 2 hz (zs.map (Value.int .i64)) (by simp [hlen]) ?_ (by simp [hlen]) (ints_oneCell _ _) g w (Below.refl _ _) (Nat.le_refl _) ?_
  · intro h0
    have h0' : 0 < n := by simpa [hlen] using h0
    obtain ⟨b, off, rfl, hc⟩ := hr.2 h0'
    refine ⟨rfl, _, rfl, fun j v hj => ?_⟩
    have hjn : j < n := by
      have := (List.getElem?_eq_some_iff.1 hj).1
      simpa [hlen] using this
    rw [Addr.add_lit, hc j hjn]
    simp [hlen, hjn] at hj
    simp [hlen, hjn, hj]
  · intro w' hh hb
    have hh' := hh.out
    have e : splice (List.replicate n (Value.int .i64 0)) 0 (zs.map (Value.int .i64)) = zs.map (Value.int .i64) := by simp [splice, hlen]
    rw [e] at hh'
    have hR := row_of_block hh'
    rw [hlen] at hR
    have := hK w' hR hb
    simpa [goInt, hlen] using this
end

end Go.Proofs.Qxb6632538a
