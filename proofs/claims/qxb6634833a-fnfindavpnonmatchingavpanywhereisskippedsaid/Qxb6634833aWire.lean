/- Rows of AVPs that the call makes; each element handed over. -/
import Derived.Test.Qxb6634833aLeaf
namespace Go.Proofs.Qxb6634833a
open Go.RowKit

theorem info28 : (Try.prog.info? 28).map (fun i => (i.zero, i.size, i.bytes)) = some (some (.agg #[.int .u32 0, .int .u8 0, .int .u32 0, .int .u32 0, .slice none 0 0]), 5, 40) := by kernel_rfl

/-- Block g is a row of AVPs of the call's own. -/
def Blk (w : World) (g : Nat) (ys : List Av) : Prop :=
  ∃ cs : Array Value, w.heap[g]? = some (.cells cs 28 (0, 0)) ∧ cs.size = 5 * ys.length ∧ ∀ i, i < ys.length → ∀ f, f < 5 → cs[i * 5 + f]? = some (cv (ys.getD i zav) f)

theorem Blk.lt {w : World} {g : Nat} {ys : List Av} (h : Blk w g ys) : g < w.heap.size := by
  obtain ⟨cs, hh, _⟩ := h
  exact (Array.getElem?_eq_some_iff.1 hh).1
theorem Blk.at5 {w : World} {g : Nat} {ys : List Av} (h : Blk w g ys) {i : Nat} (hi : i < ys.length) : At5 w g (i * 5) (ys.getD i zav) := by
  obtain ⟨cs, hh, _, hc⟩ := h
  refine ⟨?_, ?_, ?_, ?_, ?_⟩
  · rw [cell_of_row w g _ _ 28 (0, 0) hh]; exact hc i hi 0 (by omega)
  · rw [cell_of_row w g _ _ 28 (0, 0) hh]; exact hc i hi 1 (by omega)
  · rw [cell_of_row w g _ _ 28 (0, 0) hh]; exact hc i hi 2 (by omega)
  · rw [cell_of_row w g _ _ 28 (0, 0) hh]; exact hc i hi 3 (by omega)
  · rw [cell_of_row w g _ _ 28 (0, 0) hh]; exact hc i hi 4 (by omega)
theorem Blk.free {w : World} {g : Nat} {ys : List Av} (h : Blk w g ys) (o : Nat) : w.frozen? ⟨g, o, none⟩ = false := by
  obtain ⟨cs, hh, _⟩ := h
  exact frozen_of_row w g o _ 28 hh
theorem Blk.row {w : World} {g : Nat} {ys : List Av} (h : Blk w g ys) {n : Nat} (hn : ys.length = n) : Row w (some ⟨g, 0, none⟩) n ys := by
  subst hn
  exact ⟨rfl, fun _ => ⟨g, 0, rfl, fun i hi => by simpa using h.at5 hi⟩⟩
theorem Blk.below {w w' : World} {B g : Nat} {ys : List Av} (h : Blk w g ys) (hb : Below B w w') (hg : g < B) : Blk w' g ys := by
  obtain ⟨cs, hh, h2⟩ := h
  exact ⟨cs, by rw [hb.block g hg]; exact hh, h2⟩
/-- The world behind a store of x at element k. -/
def put5 (w : World) (g k : Nat) (x : Av) : World :=
  ((((w.setCell ⟨g, k * 5, none⟩ (.int .u32 x.code)).setCell ⟨g, k * 5 + 1, none⟩ (.int .u8 x.flags)).setCell ⟨g, k * 5 + 2, none⟩ (.int .u32 x.length)).setCell ⟨g, k * 5 + 3, none⟩ (.int .u32 x.vendor)).setCell ⟨g, k * 5 + 4, none⟩ (.slice x.da x.dn x.dc)
theorem Blk.put {w : World} {g : Nat} {ys : List Av} (h : Blk w g ys) {k : Nat} (hk : k < ys.length) (x : Av) : Blk (put5 w g k x) g (ys.set k x) := by
  obtain ⟨cs, hh, hs, hc⟩ := h
  have e0 := heap_setCell_same w g (k * 5) cs 28 (.int .u32 x.code) hh
  have e1 := heap_setCell_same _ g (k * 5 + 1) _ 28 (.int .u8 x.flags) e0
  have e2 := heap_setCell_same _ g (k * 5 + 2) _ 28 (.int .u32 x.length) e1
  have e3 := heap_setCell_same _ g (k * 5 + 3) _ 28 (.int .u32 x.vendor) e2
  have e4 := heap_setCell_same _ g (k * 5 + 4) _ 28 (.slice x.da x.dn x.dc) e3
  refine ⟨_, e4, by simp [hs], fun i hi f hf => ?_⟩
  rw [List.length_set] at hi
  have hci := hc i hi f hf
  by_cases hik : i = k
  · subst hik
    have hg : (ys.set i x).getD i zav = x := by simp [List.getD, hi]
    rw [hg]
    match f, hf with
    | 0, _ =>
      have e5 : i * 5 + 0 = i * 5 := rfl
      rw [e5, Array.getElem?_setIfInBounds_ne (by omega), Array.getElem?_setIfInBounds_ne (by omega), Array.getElem?_setIfInBounds_ne (by omega), Array.getElem?_setIfInBounds_ne (by omega), Array.getElem?_setIfInBounds_self_of_lt (by omega)]; rfl
    | 1, _ =>
      rw [Array.getElem?_setIfInBounds_ne (by omega), Array.getElem?_setIfInBounds_ne (by omega), Array.getElem?_setIfInBounds_ne (by omega), Array.getElem?_setIfInBounds_self_of_lt (by simp only [Array.size_setIfInBounds]; omega)]; rfl
    | 2, _ =>
      rw [Array.getElem?_setIfInBounds_ne (by omega), Array.getElem?_setIfInBounds_ne (by omega), Array.getElem?_setIfInBounds_self_of_lt (by simp only [Array.size_setIfInBounds]; omega)]; rfl
    | 3, _ =>
      rw [Array.getElem?_setIfInBounds_ne (by omega), Array.getElem?_setIfInBounds_self_of_lt (by simp only [Array.size_setIfInBounds]; omega)]; rfl
    | 4, _ =>
      rw [Array.getElem?_setIfInBounds_self_of_lt (by simp only [Array.size_setIfInBounds]; omega)]; rfl
  · have hg : (ys.set k x).getD i zav = ys.getD i zav := by
      rw [List.getD_eq_getElem?_getD, List.getD_eq_getElem?_getD, List.getElem?_set_ne (fun e => hik e.symm)]
    rw [hg, ← hci]
    rw [Array.getElem?_setIfInBounds_ne (by omega), Array.getElem?_setIfInBounds_ne (by omega), Array.getElem?_setIfInBounds_ne (by omega), Array.getElem?_setIfInBounds_ne (by omega), Array.getElem?_setIfInBounds_ne (by omega)]
theorem put5_below {w0 w : World} {B g : Nat} (h : Below B w0 w) (hg : B ≤ g) (k : Nat) (x : Av) : Below B w0 (put5 w g k x) :=
  ((((h.setCell hg _).setCell hg _).setCell hg _).setCell hg _).setCell hg _

section
variable {w : World} {ops : Array Oper} {rest : List Oper} {o : Oper} {a : Act} {Q : Exit → Act → World → Prop}
theorem wpList_make_blk (hg : o.guard = none) (l c : Operand) (hop : o.op = Op.makeSlice 29 l c) (n : Nat) (kl kc : IntKind) (L C : Int) (hl : a.eval l = .int kl L) (hc : a.eval c = .int kc C) (hL : L = (n : Int)) (hC : C = (n : Int)) (hn : n ≤ 4194304)
    (hK : ∀ w', Blk w' w.heap.size (List.replicate n zav) → Below w.heap.size w w' → wpList Try.prog ops Q rest (a.put o.dst (.slice (some ⟨w.heap.size, 0, none⟩) n n)) w') : wpList Try.prog ops Q (o :: rest) a w := by
  obtain ⟨i0, hi, hz0, hz1, hz2⟩ := info_parts info28
  refine wpList_make_full w hg l c 29 hop w.heap.size 28 i0 _ 5 Try.underlying29 hi hz0 hz1 kl kc L C n hl hc hL hC (by rw [hz2]; omega) (by unfold maxLen; omega) (Nat.le_refl _) ?_
  intro w' hown hgrow
  refine hK w' ?_ ((Below.refl _ _).grown hgrow (Nat.le_refl _) (fun k hk => by cases hk))
  obtain ⟨_, h2⟩ := hown
  rcases h2 with ⟨h2, _⟩ | ⟨g', cap, cur, hv, _, hh, _, _, hsz, ht⟩
  · cases h2
  · simp only [Value.slice.injEq, Option.some.injEq, Addr.mk.injEq, and_true, true_and] at hv
    obtain ⟨hv1, hv2⟩ := hv
    subst hv2
    rw [← hv1] at hh
    rw [List.take_of_length_le (by simp [hsz])] at ht
    have hcur : cur = madeCells #[.int .u32 0, .int .u8 0, .int .u32 0, .int .u32 0, .slice none 0 0] (n * 5) := Array.toList_inj.1 ht
    refine ⟨cur, hh, by simp [hsz]; omega, fun i hi f hf => ?_⟩
    rw [List.length_replicate] at hi
    have e : ∀ j, j < n * 5 → cur[j]? = some ((#[.int .u32 0, .int .u8 0, .int .u32 0, .int .u32 0, .slice none 0 0] : Array Value)[j % 5]!) := by
      intro j hj
      rw [hcur]
      simp [madeCells, hj]
    have hz : (List.replicate n zav).getD i zav = zav := by simp [List.getD, hi]
    rw [e _ (by omega), hz, show (i * 5 + f) % 5 = f from by omega]
    match f, hf with
    | 0, _ => rfl
    | 1, _ => rfl
    | 2, _ => rfl
    | 3, _ => rfl
    | 4, _ => rfl
end

theorem take_snoc (l : List Av) (k : Nat) (h : k < l.length) : l.take (k + 1) = l.take k ++ [l.getD k zav] := by
  rw [List.take_succ_eq_append_getElem h]; simp [List.getD, h]
theorem set_next (xs : List Av) (n k : Nat) (hk : k < n) (hz : xs.length = n) : (xs.take k ++ List.replicate (n - k) zav).set k (xs.getD k zav) = xs.take (k + 1) ++ List.replicate (n - (k + 1)) zav := by
  rw [take_snoc xs k (by omega)]
  have e : n - k = (n - (k + 1)) + 1 := by omega
  rw [e, List.replicate_succ, List.set_append_right _ _ (by simp; omega)]
  have : k - (xs.take k).length = 0 := by simp; omega
  rw [this]
  simp

set_option maxRecDepth 100000 in
set_option maxHeartbeats 4000000 in
theorem wire_any (a : Option Addr) (n c : Nat) (xs : List Av) (w : World) (hl : n ≤ 1048576) (h : Row w a n xs) :
    Calls Try.prog 7 #[.slice a n c] w fun e w' => ∃ g, e = .returned (.slice (some ⟨g, 0, none⟩) n n) ∧ Row w' (some ⟨g, 0, none⟩) n xs ∧ Below w.heap.size w w' := by
  have hz := h.len
  by_cases h0 : n = 0
  · subst h0
    obtain rfl : xs = [] := List.eq_nil_of_length_eq_zero hz
    go_enter Try.func7, Try.ntmps7
    go_wp2_with (at_make; refine wpList_make_blk rfl _ _ rfl 0 _ _ _ _ rfl rfl (by omega) (by omega) (by omega) ?_; intro w1 hB1 hb1)
    refine wp_loop_rounds 1 ?_
    rw [rounds_succ]
    go_wp2
    go_ret
    exact ⟨w.heap.size, rfl, hB1.row rfl, hb1⟩
  · obtain ⟨b, off, rfl⟩ := h.form (by omega)
    go_enter Try.func7, Try.ntmps7
    go_wp2_with (at_make; refine wpList_make_blk rfl _ _ rfl n _ _ _ _ rfl rfl (by omega) (by omega) (by omega) ?_; intro w1 hB1 hb1)
    have hB1' : Blk w1 w.heap.size (xs.take 0 ++ List.replicate (n - 0) zav) := by simpa using hB1
    clear hB1
    go_loopw [4] (fun i wr => ∃ k : Nat, k ≤ n ∧ i = .int .i64 k ∧ Blk wr w.heap.size (xs.take k ++ List.replicate (n - k) zav) ∧ Below w.heap.size w wr) (fun i _ => n - (intOf i).toNat)
    case atStart => exact ⟨0, Nat.zero_le _, rfl, hB1', hb1⟩
    case round =>
      clear hB1' hb1
      obtain ⟨k, hk, rfl, hB, hb⟩ := hrel
      by_cases hlt : k < n
      · obtain ⟨x, HX, hat⟩ := (h.later hb).spot hlt
        have hlt0 := h.at5 hlt
        have hbw : b < w.heap.size := hlt0.lt
        obtain ⟨s0, s1, s2, s3, s4⟩ := hat
        obtain ⟨d0, d1, d2, d3, d4⟩ := hB.at5 (i := k) (by simp; omega)
        have f0 := hB.free (k * 5)
        have f1 := hB.free (k * 5 + 1)
        have f2 := hB.free (k * 5 + 2)
        have f3 := hB.free (k * 5 + 3)
        have f4 := hB.free (k * 5 + 4)
        have hi0 : (0 : Int) ≤ (k : Int) := by omega
        have hi1 : (k : Int) < (n : Int) := by omega
        clear hlt0
        go_wp2
        go_region
        have hBn : Blk (put5 wr w.heap.size k x).drew w.heap.size (xs.take (k + 1) ++ List.replicate (n - (k + 1)) zav) := by
          have := hB.put (k := k) (by simp; omega) x
          rw [← HX.out, set_next xs n k hlt hz, HX.out] at this
          exact this
        have hbn := (put5_below hb (Nat.le_refl _) k x).drew
        clear hB hb s0 s1 s2 s3 s4 d0 d1 d2 d3 d4 f0 f1 f2 f3 f4
        go_wp2
        go_roundw
        case rel => exact ⟨k + 1, by omega, by go_num, hBn, hbn⟩
        case measure => simp [intOf]; omega
      · obtain rfl : k = n := by omega
        go_wp2
        go_ret
        refine ⟨w.heap.size, rfl, ?_, hb⟩
        rw [List.take_of_length_le (by omega), Nat.sub_self, List.replicate_zero, List.append_nil] at hB
        exact hB.row hz

end Go.Proofs.Qxb6634833a
