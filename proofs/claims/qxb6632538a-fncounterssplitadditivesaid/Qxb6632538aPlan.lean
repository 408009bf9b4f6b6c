/- The plan: its making. -/
import Derived.Test.Qxb6632538aLeaf2
namespace Go.Proofs.Qxb6632538a
open Go.RowKit

theorem info37 : (Try.prog.info? 37).map (fun i => (i.zero, i.size, i.bytes)) = some (some (.agg #[.string ⟨#[]⟩, .int .i64 0]), 2, 24) := by kernel_rfl

/-- Block g holds the n inputs, of which the first k bear their sizes. -/
def Ins (w : World) (g n : Nat) (zs : List Int) (k : Nat) : Prop :=
  ∃ cs : Array Value, w.heap[g]? = some (.cells cs 37 (0, 0)) ∧ cs.size = 2 * n ∧ ∀ j, j < n → cs[2 * j]? = some (.string ⟨#[]⟩) ∧ cs[2 * j + 1]? = some (.int .i64 (if j < k then zs.getD j 0 else 0))

theorem Ins.cells {w : World} {g n : Nat} {zs : List Int} {k : Nat} (h : Ins w g n zs k) {j : Nat} (hj : j < n) :
    w.cell? ⟨g, j * 2, none⟩ = some (.string ⟨#[]⟩) ∧ w.cell? ⟨g, j * 2 + 1, none⟩ = some (.int .i64 (if j < k then zs.getD j 0 else 0)) := by
  obtain ⟨cs, hb, _, hc⟩ := h
  rw [cell_of_row w g _ cs 37 (0, 0) hb, cell_of_row w g _ cs 37 (0, 0) hb, Nat.mul_comm]
  exact hc j hj
theorem Ins.free {w : World} {g n : Nat} {zs : List Int} {k : Nat} (h : Ins w g n zs k) (i : Nat) : w.frozen? ⟨g, i, none⟩ = false := by
  obtain ⟨cs, hb, _, _⟩ := h
  exact frozen_of_row w g i cs 37 hb
theorem Ins.lt {w : World} {g n : Nat} {zs : List Int} {k : Nat} (h : Ins w g n zs k) : g < w.heap.size := by
  obtain ⟨cs, hb, _, _⟩ := h
  exact (Array.getElem?_eq_some_iff.1 hb).1
theorem Ins.below {w w' : World} {B g n : Nat} {zs : List Int} {k : Nat} (h : Ins w g n zs k) (hb : Below B w w') (hg : g < B) : Ins w' g n zs k := by
  obtain ⟨cs, h1, h2, h3⟩ := h
  exact ⟨cs, by rw [hb.block g hg]; exact h1, h2, h3⟩
theorem Ins.step {w : World} {g n : Nat} {zs : List Int} {k : Nat} (h : Ins w g n zs k) (hk : k < n) :
    Ins ((w.setCell ⟨g, k * 2, none⟩ (.string ⟨#[]⟩)).setCell ⟨g, k * 2 + 1, none⟩ (.int .i64 (zs.getD k 0))) g n zs (k + 1) := by
  obtain ⟨cs, hb, hs, hc⟩ := h
  refine ⟨(cs.setIfInBounds (k * 2) (.string ⟨#[]⟩)).setIfInBounds (k * 2 + 1) (.int .i64 (zs.getD k 0)), ?_, by simp [hs], fun j hj => ?_⟩
  · exact heap_setCell_same _ g _ _ 37 _ (heap_setCell_same w g _ cs 37 _ hb)
  · obtain ⟨c1, c2⟩ := hc j hj
    constructor
    · rw [Array.getElem?_setIfInBounds, if_neg (by omega), Array.getElem?_setIfInBounds]
      split
      · rw [if_pos (by omega)]
      · exact c1
    · rw [Array.getElem?_setIfInBounds]
      by_cases hjk : j = k
      · subst hjk
        rw [if_pos (by omega), if_pos (by simp [hs]; omega), if_pos (by omega)]
      · rw [if_neg (by omega), Array.getElem?_setIfInBounds, if_neg (by omega), c2]
        by_cases h' : j < k
        · rw [if_pos h', if_pos (by omega)]
        · rw [if_neg h', if_neg (by omega)]
theorem Ins.made {w : World} {B g n : Nat} (zs : List Int) (h : w.ownsRow B 37 2 (.slice (some ⟨g, 0, none⟩) n n) n (madeCells #[.string ⟨#[]⟩, .int .i64 0] (n * 2)).toList) : Ins w g n zs 0 := by
  obtain ⟨_, h2⟩ := h
  rcases h2 with ⟨h2, _⟩ | ⟨g', cap, cur, hv, _, hh, _, _, hsz, ht⟩
  · cases h2
  · simp only [Value.slice.injEq, Option.some.injEq, Addr.mk.injEq, and_true, true_and] at hv
    obtain ⟨rfl, rfl⟩ := hv
    have hcur : cur = madeCells #[.string ⟨#[]⟩, .int .i64 0] (n * 2) := by
      rw [List.take_of_length_le (by simp [hsz])] at ht
      exact Array.toList_inj.1 ht
    refine ⟨cur, hh, by omega, fun j hj => ?_⟩
    have e : ∀ i, i < n * 2 → cur[i]? = some ((#[.string ⟨#[]⟩, .int .i64 0] : Array Value)[i % 2]!) := by
      intro i hi
      rw [hcur]
      simp [madeCells, hi]
    constructor
    · rw [e _ (by omega), Nat.mul_mod_right]; rfl
    · rw [e _ (by omega), show (2 * j + 1) % 2 = 1 from by omega]; rfl

/-- Block p is a plan over the inputs of block g. -/
def Plan (w : World) (p g n : Nat) (zs : List Int) (s r : Int) : Prop :=
  w.cell? ⟨p, 2, none⟩ = some (.int .i64 r) ∧ w.cell? ⟨p, 3, none⟩ = some (.int .i64 s) ∧ w.cell? ⟨p, 7, none⟩ = some (.slice (some ⟨g, 0, none⟩) n n) ∧ Ins w g n zs n

theorem Plan.lt {w : World} {p g n : Nat} {zs : List Int} {s r : Int} (h : Plan w p g n zs s r) : p < w.heap.size ∧ g < w.heap.size :=
  ⟨block_lt_of_cell h.1, h.2.2.2.lt⟩
theorem Plan.below {w w' : World} {B p g n : Nat} {zs : List Int} {s r : Int} (h : Plan w p g n zs s r) (hb : Below B w w') (hp : p < B) (hg : g < B) : Plan w' p g n zs s r := by
  obtain ⟨h1, h2, h3, h4⟩ := h
  exact ⟨by rw [hb.cell (p := ⟨p, 2, none⟩) hp]; exact h1, by rw [hb.cell (p := ⟨p, 3, none⟩) hp]; exact h2, by rw [hb.cell (p := ⟨p, 7, none⟩) hp]; exact h3, h4.below hb hg⟩

theorem Plan.boxed {w : World} {g n : Nat} {zs : List Int} {s r : Int} (h : Ins w g n zs n) (cs : Array Value) (h2 : cs[2]? = some (.int .i64 r)) (h3 : cs[3]? = some (.int .i64 s)) (h7 : cs[7]? = some (.slice (some ⟨g, 0, none⟩) n n)) :
    Plan (w.alloc (.cells cs 44)) w.heap.size g n zs s r :=
  ⟨by simp [h2], by simp [h3], by simp [h7], h.below ((Below.refl _ _).alloc (Nat.le_refl _) _) h.lt⟩

set_option maxHeartbeats 400000 in
theorem plan_any (a : Option Addr) (len cap : Nat) (zs : List Int) (s r : Int) (w : World) (hl : len ≤ 1048576) (h : Row w a len zs) :
    Calls Try.prog 7 #[.slice a len cap, .int .i64 s, .int .i64 r] w fun e w' => ∃ p g : Nat, e = .returned (.pointer (some ⟨p, 0, none⟩)) ∧ Plan w' p g len zs s r ∧ Below w.heap.size w w' := by
  have hz := h.len
  obtain ⟨i0, hi, hz0, hz1, hz2⟩ := info_parts info37
  by_cases h0 : len = 0
  · subst h0
    go_enter Try.func7, Try.ntmps7
    go_wp2_with (at_make; refine wpList_make_full _ rfl _ _ 35 rfl w.heap.size 37 i0 _ 2 Try.underlying35 hi hz0 hz1 _ _ _ _ 0 rfl rfl (by omega) (by omega) (by rw [hz2]; omega) (by unfold maxLen; omega) (Nat.le_refl _) ?_)
    intro w1 hown hgrow
    have hins := Ins.made zs hown
    have hbel := (Below.refl w.heap.size w).grown hgrow (Nat.le_refl _) (fun k hk => by cases hk)
    clear hown hgrow
    go_wp2
    refine wp_loop_rounds 1 ?_
    rw [rounds_succ]
    go_wp2
    go_ret
    exact ⟨w1.heap.size, w.heap.size, rfl, Plan.boxed hins _ rfl rfl rfl, hbel.alloc hbel.size _⟩
  · obtain ⟨b, off, rfl⟩ := h.form (by omega)
    go_enter Try.func7, Try.ntmps7
    go_wp2_with (at_make; refine wpList_make_full _ rfl _ _ 35 rfl w.heap.size 37 i0 _ 2 Try.underlying35 hi hz0 hz1 _ _ _ _ len rfl rfl (by omega) (by omega) (by rw [hz2]; omega) (by unfold maxLen; omega) (Nat.le_refl _) ?_)
    intro w1 hown hgrow
    have hins := Ins.made zs hown
    have hbel := (Below.refl w.heap.size w).grown hgrow (Nat.le_refl _) (fun k hk => by cases hk)
    clear hown hgrow
    go_wp2
    go_loopw [8] (fun i wr => ∃ k : Nat, k ≤ len ∧ i = .int .i64 k ∧ Ins wr w.heap.size len zs k ∧ Below w.heap.size w wr) (fun i _ => len - (intOf i).toNat)
    case atStart => exact ⟨0, Nat.zero_le _, rfl, hins, hbel⟩
    case round =>
      obtain ⟨k, hk, rfl, hin, hbl⟩ := hrel
      by_cases hlt : k < len
      · obtain ⟨z, HZ, hcell0⟩ := h.spot hlt
        have hcell := (hbl.cell (p := ⟨b, off + k, none⟩) (block_lt_of_cell hcell0)).trans hcell0
        obtain ⟨hc1, hc2⟩ := hin.cells hlt
        have hf1 := hin.free (k * 2)
        have hf2 := hin.free (k * 2 + 1)
        go_wp2
        go_roundw
        case rel => exact ⟨k + 1, by omega, by go_num, by have := hin.step hlt; rw [HZ.out] at this; exact this, (hbl.setCell (Nat.le_refl _) _).setCell (Nat.le_refl _) _⟩
        case measure => simp [intOf]; omega
      · go_wp2
        go_ret
        obtain rfl : k = len := by omega
        exact ⟨wr.heap.size, w.heap.size, rfl, Plan.boxed hin _ rfl rfl rfl, hbl.alloc hbl.size _⟩
end Go.Proofs.Qxb6632538a
