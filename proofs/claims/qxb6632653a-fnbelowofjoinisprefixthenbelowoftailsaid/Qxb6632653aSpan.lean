/- Rows that the call makes; a span's making and its units handed out. -/
import Derived.Test.Qxb6632653aLeaf
import Derived.Laws.CopyOwn
namespace Go.Proofs.Qxb6632653a
open Go.RowKit

theorem info21 : (Try.prog.info? 21).map (fun i => (i.zero, i.size, i.bytes)) = some (some (.int .i32 0), 1, 4) := by kernel_rfl
theorem info33 : (Try.prog.info? 33).map (fun i => (i.zero, i.size, i.bytes)) = some (some (.int .i32 0), 1, 4) := by kernel_rfl
theorem size21 : (Try.prog.info? 21).map (·.size) = some 1 := by kernel_rfl

/-- Block g is a row of the call's own. -/
def Blk (w : World) (g : Nat) (e : TypeId) (vs : List Int) : Prop := w.heap[g]? = some (.cells (vs.map (Value.int .i32)).toArray e (0, 0))

theorem Blk.lt {w : World} {g : Nat} {e : TypeId} {vs : List Int} (h : Blk w g e vs) : g < w.heap.size := (Array.getElem?_eq_some_iff.1 h).1
theorem Blk.row {w : World} {g : Nat} {e : TypeId} {vs : List Int} (h : Blk w g e vs) {n : Nat} (hn : vs.length = n) : Row w (some ⟨g, 0, none⟩) n vs := by
  subst hn
  refine ⟨rfl, fun _ => ⟨g, 0, rfl, fun i hi => ?_⟩⟩
  rw [cell_of_row w g _ _ e (0, 0) h]
  simp [hi]
theorem Blk.cell {w : World} {g : Nat} {e : TypeId} {vs : List Int} (h : Blk w g e vs) {i : Nat} (hi : i < vs.length) : ∃ z, w.cell? ⟨g, i, none⟩ = some (.int .i32 z) := by
  refine ⟨vs[i], ?_⟩
  rw [cell_of_row w g _ _ e (0, 0) h]
  simp [hi]
theorem Blk.free {w : World} {g : Nat} {e : TypeId} {vs : List Int} (h : Blk w g e vs) (i : Nat) : w.frozen? ⟨g, i, none⟩ = false := frozen_of_row w g i _ e h
theorem Blk.set {w : World} {g : Nat} {e : TypeId} {vs : List Int} (h : Blk w g e vs) (i : Nat) (z : Int) : Blk (w.setCell ⟨g, i, none⟩ (.int .i32 z)) g e (vs.set i z) := by
  unfold Blk at *
  rw [heap_setCell_same w g i _ e _ h]
  simp [List.map_set]
theorem Blk.below {w w' : World} {B g : Nat} {e : TypeId} {vs : List Int} (h : Blk w g e vs) (hb : Below B w w') (hg : g < B) : Blk w' g e vs := by
  unfold Blk at *
  rw [hb.block g hg]; exact h

/-- Block g is a variable of one cell. -/
def Var (w : World) (g : Nat) (t : TypeId) (v : Value) : Prop := w.heap[g]? = some (.cells #[v] t (0, 0))
theorem Var.cell {w : World} {g : Nat} {t : TypeId} {v : Value} (h : Var w g t v) : w.cell? ⟨g, 0, none⟩ = some v := by
  rw [cell_of_row w g _ _ t (0, 0) h]; rfl
theorem Var.free {w : World} {g : Nat} {t : TypeId} {v : Value} (h : Var w g t v) : w.frozen? ⟨g, 0, none⟩ = false := frozen_of_row w g 0 _ t h
theorem Var.set {w : World} {g : Nat} {t : TypeId} {v : Value} (h : Var w g t v) (u : Value) : Var (w.setCell ⟨g, 0, none⟩ u) g t u := by
  unfold Var at *
  rw [heap_setCell_same w g 0 _ t _ h]; rfl
theorem Var.lt {w : World} {g : Nat} {t : TypeId} {v : Value} (h : Var w g t v) : g < w.heap.size := (Array.getElem?_eq_some_iff.1 h).1
theorem Var.below {w w' : World} {B g : Nat} {t : TypeId} {v : Value} (h : Var w g t v) (hb : Below B w w') (hg : g < B) : Var w' g t v := by
  unfold Var at *; rw [hb.block g hg]; exact h
theorem Var.other {w : World} {g : Nat} {t : TypeId} {v : Value} (h : Var w g t v) {p : Addr} (hp : g ≠ p.block) (u : Value) : Var (w.setCell p u) g t v := by
  unfold Var at *; rw [heap_setCell_other w p g u hp]; exact h
theorem Var.made (w : World) (t : TypeId) (v : Value) : Var (w.alloc (.cells #[v] t)) w.heap.size t v := heap_alloc_new w _
theorem Blk.other {w : World} {g : Nat} {e : TypeId} {vs : List Int} (h : Blk w g e vs) {p : Addr} (hp : g ≠ p.block) (u : Value) : Blk (w.setCell p u) g e vs := by
  unfold Blk at *; rw [heap_setCell_other w p g u hp]; exact h

theorem set_next (zs : List Int) (n k : Nat) (hk : k < n) (hz : zs.length = n) : (zs.take k ++ List.replicate (n - k) 0).set k (zs.getD k 0) = zs.take (k + 1) ++ List.replicate (n - (k + 1)) 0 := by
  rw [take_snoc zs k (by omega)]
  have e : n - k = (n - (k + 1)) + 1 := by omega
  rw [e, List.replicate_succ, List.set_append_right _ _ (by simp; omega)]
  have : k - (zs.take k).length = 0 := by simp; omega
  rw [this]
  simp

section
variable {w : World} {ops : Array Oper} {rest : List Oper} {o : Oper} {a : Act} {Q : Exit → Act → World → Prop}

theorem wpList_make_blk (t e : TypeId) (hu : Try.prog.underlying t = some (.slice e)) (hinf : (Try.prog.info? e).map (fun i => (i.zero, i.size, i.bytes)) = some (some (.int .i32 0), 1, 4))
    (hg : o.guard = none) (l c : Operand) (hop : o.op = Op.makeSlice t l c) (n : Nat) (kl kc : IntKind) (L C : Int) (hl : a.eval l = .int kl L) (hc : a.eval c = .int kc C) (hL : L = (n : Int)) (hC : C = (n : Int)) (hn : n ≤ 4194304)
    (hK : ∀ w', Blk w' w.heap.size e (List.replicate n 0) → Below w.heap.size w w' → wpList Try.prog ops Q rest (a.put o.dst (.slice (some ⟨w.heap.size, 0, none⟩) n n)) w') : wpList Try.prog ops Q (o :: rest) a w := by
  obtain ⟨i0, hi, hz0, hz1, hz2⟩ := info_parts hinf
  refine wpList_make_full w hg l c t hop w.heap.size e i0 _ 1 hu hi hz0 hz1 kl kc L C n hl hc hL hC (by rw [hz2]; omega) (by unfold maxLen; omega) (Nat.le_refl _) ?_
  intro w' hown hgrow
  refine hK w' ?_ ((Below.refl _ _).grown hgrow (Nat.le_refl _) (fun k hk => by cases hk))
  obtain ⟨_, h2⟩ := hown
  rcases h2 with ⟨h2, _⟩ | ⟨g', cap, cur, hv, _, hh, _, _, hsz, ht⟩
  · cases h2
  · simp only [Value.slice.injEq, Option.some.injEq, Addr.mk.injEq, and_true, true_and] at hv
    obtain ⟨hv1, hv2⟩ := hv
    subst hv2
    rw [← hv1] at hh
    unfold Blk
    rw [hh]
    rw [List.take_of_length_le (by simp [hsz])] at ht
    have hcur : cur = (List.replicate n (.int .i32 0)).toArray := by
      apply Array.toList_inj.1
      rw [ht, show (Value.int IntKind.i32 0).cells = #[.int .i32 0] from rfl, Nat.mul_one, toList_madeCells_one]
    rw [hcur]
    simp
end

set_option maxHeartbeats 1000000 in
theorem span_any (a : Option Addr) (n c : Nat) (zs : List Int) (w : World) (hl : n ≤ 1048576) (h : Row w a n zs) :
    Calls Try.prog 12 #[.slice a n c] w fun e w' => ∃ g, e = .returned (.agg #[.slice (some ⟨g, 0, none⟩) n n]) ∧ Row w' (some ⟨g, 0, none⟩) n zs ∧ Below w.heap.size w w' := by
  have hz := h.len
  have hW : Below w.heap.size w (w.alloc (.cells #[.slice none 0 0] 30)) := (Below.refl _ _).alloc (Nat.le_refl _) _
  have hV := Var.made w 30 (.slice none 0 0)
  by_cases h0 : n = 0
  · subst h0
    obtain rfl : zs = [] := List.eq_nil_of_length_eq_zero hz
    go_enter Try.func12, Try.ntmps12
    go_wp2_with (at_make; refine wpList_make_blk 28 33 Try.underlying28 info33 rfl _ _ rfl 0 _ _ _ _ rfl rfl (by omega) (by omega) (by omega) ?_; intro w1 hB1 hb1)
    have hV1 := hV.below hb1 (by simp)
    have hbw := hW.trans (hb1.mono (by simp))
    have hc := hV1.cell
    have hf := hV1.free
    have hB1' : Blk w1 (w.heap.size + 1) 33 [] := by simpa using hB1
    clear hB1 hb1 hV hW
    refine wp_loop_rounds 1 ?_
    rw [rounds_succ]
    go_wp2
    have hc2 := (hV1.set (.slice (some ⟨w.heap.size + 1, 0, none⟩) 0 0)).cell
    refine bodyPost_ret (v := .agg #[.slice (some ⟨w.heap.size + 1, 0, none⟩) 0 0]) (by simp [results, Try.results12, go_sem, hc2]) rfl ⟨w.heap.size + 1, rfl, (hB1'.other (by simp) _).row rfl, hbw.setCell (Nat.le_refl _) _⟩
  · obtain ⟨b, off, rfl⟩ := h.form (by omega)
    go_enter Try.func12, Try.ntmps12
    go_wp2_with (at_make; refine wpList_make_blk 28 33 Try.underlying28 info33 rfl _ _ rfl n _ _ _ _ rfl rfl (by omega) (by omega) (by omega) ?_; intro w1 hB1 hb1)
    have hV1 := hV.below hb1 (by simp)
    have hbw := hW.trans (hb1.mono (by simp))
    have hB1' : Blk w1 (w.heap.size + 1) 33 (zs.take 0 ++ List.replicate (n - 0) 0) := by simpa using hB1
    clear hB1 hb1 hV hW
    go_loopw [4] (fun i wr => ∃ k : Nat, k ≤ n ∧ i = .int .i64 k ∧ Blk wr (w.heap.size + 1) 33 (zs.take k ++ List.replicate (n - k) 0) ∧ Var wr w.heap.size 30 (.slice none 0 0) ∧ Below w.heap.size w wr) (fun i _ => n - (intOf i).toNat)
    case atStart => exact ⟨0, Nat.zero_le _, rfl, hB1', hV1, hbw⟩
    case round =>
      clear hB1' hV1 hbw
      obtain ⟨k, hk, rfl, hB, hV, hb⟩ := hrel
      by_cases hlt : k < n
      · obtain ⟨z, HZ, hcell⟩ := (h.later hb).spot hlt
        obtain ⟨z0, hc0⟩ := hB.cell (i := k) (by simp; omega)
        have hf0 := hB.free k
        go_wp2
        go_roundw
        case rel => exact ⟨k + 1, by omega, by go_num, by have := hB.set k z; rw [← HZ.out, set_next zs n k hlt hz, HZ.out] at this; exact this, hV.other (by simp) _, hb.setCell (by simp) _⟩
        case measure => simp [intOf]; omega
      · obtain rfl : k = n := by omega
        have hc := hV.cell
        have hf := hV.free
        go_wp2
        have hc2 := (hV.set (.slice (some ⟨w.heap.size + 1, 0, none⟩) k k)).cell
        refine bodyPost_ret (v := .agg #[.slice (some ⟨w.heap.size + 1, 0, none⟩) k k]) (by simp [results, Try.results12, go_sem, hc2]) rfl ⟨w.heap.size + 1, rfl, ?_, hb.setCell (Nat.le_refl _) _⟩
        have := hB.other (p := ⟨w.heap.size, 0, none⟩) (by simp) (.slice (some ⟨w.heap.size + 1, 0, none⟩) k k)
        rw [List.take_of_length_le (by omega), Nat.sub_self, List.replicate_zero, List.append_nil] at this
        exact this.row hz

set_option maxHeartbeats 1000000 in
theorem units_any (a : Option Addr) (n c : Nat) (zs : List Int) (w : World) (hl : n ≤ 2097152) (h : Row w a n zs) :
    Calls Try.prog 11 #[.agg #[.slice a n c]] w fun e w' => ∃ g, e = .returned (.slice (some ⟨g, 0, none⟩) n n) ∧ Row w' (some ⟨g, 0, none⟩) n zs ∧ Below w.heap.size w w' := by
  have hz := h.len
  have hW : Below w.heap.size w (w.alloc (.cells #[.slice a n c] 30)) := (Below.refl _ _).alloc (Nat.le_refl _) _
  have hV := Var.made w 30 (.slice a n c)
  by_cases h0 : n = 0
  · subst h0
    obtain rfl : zs = [] := List.eq_nil_of_length_eq_zero hz
    go_enter Try.func11, Try.ntmps11
    go_wp2_with (at_make; refine wpList_make_blk 22 21 Try.underlying22 info21 rfl _ _ rfl 0 _ _ _ _ rfl rfl (by omega) (by omega) (by omega) ?_; intro w1 hB1 hb1)
    have hV1 := hV.below hb1 (by simp)
    have hbw := hW.trans (hb1.mono (by simp))
    have hc := hV1.cell
    have hB1' : Blk w1 (w.heap.size + 1) 21 [] := by simpa using hB1
    clear hB1 hb1 hV hW
    refine wp_loop_rounds 1 ?_
    rw [rounds_succ]
    go_wp2
    go_ret
    exact ⟨w.heap.size + 1, rfl, hB1'.row rfl, hbw⟩
  · obtain ⟨b, off, rfl⟩ := h.form (by omega)
    go_enter Try.func11, Try.ntmps11
    go_wp2_with (at_make; refine wpList_make_blk 22 21 Try.underlying22 info21 rfl _ _ rfl n _ _ _ _ rfl rfl (by omega) (by omega) (by omega) ?_; intro w1 hB1 hb1)
    have hV1 := hV.below hb1 (by simp)
    have hbw := hW.trans (hb1.mono (by simp))
    have hB1' : Blk w1 (w.heap.size + 1) 21 (zs.take 0 ++ List.replicate (n - 0) 0) := by simpa using hB1
    clear hB1 hb1 hV hW
    go_loopw [4] (fun i wr => ∃ k : Nat, k ≤ n ∧ i = .int .i64 k ∧ Blk wr (w.heap.size + 1) 21 (zs.take k ++ List.replicate (n - k) 0) ∧ Var wr w.heap.size 30 (.slice (some ⟨b, off, none⟩) n c) ∧ Below w.heap.size w wr) (fun i _ => n - (intOf i).toNat)
    case atStart => exact ⟨0, Nat.zero_le _, rfl, hB1', hV1, hbw⟩
    case round =>
      clear hB1' hV1 hbw
      obtain ⟨k, hk, rfl, hB, hV, hb⟩ := hrel
      have hc := hV.cell
      by_cases hlt : k < n
      · obtain ⟨z, HZ, hcell⟩ := (h.later hb).spot hlt
        obtain ⟨z0, hc0⟩ := hB.cell (i := k) (by simp; omega)
        have hf0 := hB.free k
        go_wp2
        go_roundw
        case rel => exact ⟨k + 1, by omega, by go_num, by have := hB.set k z; rw [← HZ.out, set_next zs n k hlt hz, HZ.out] at this; exact this, hV.other (by simp) _, hb.setCell (by simp) _⟩
        case measure => simp [intOf]; omega
      · obtain rfl : k = n := by omega
        go_wp2
        go_ret
        refine ⟨w.heap.size + 1, rfl, ?_, hb⟩
        rw [List.take_of_length_le (by omega), Nat.sub_self, List.replicate_zero, List.append_nil] at hB
        exact hB.row hz

end Go.Proofs.Qxb6632653a
