/- The law's own 'zzBelow', 'zzCanEnd'; copies into rows of the call's own. -/
import Derived.Test.Qxb6632653aBelow
namespace Go.Proofs.Qxb6632653a
open Go.RowKit

theorem below_any (g n : Nat) (zs : List Int) (w : World) (hl : n ≤ 1048576) (h : Row w (some ⟨g, 0, none⟩) n zs) :
    Calls Try.prog 13 #[.agg #[.slice (some ⟨g, 0, none⟩) n n]] w fun e w' => ∃ g' cap, e = .returned (.agg #[.slice (some ⟨g', 0, none⟩) (blw zs).length cap]) ∧ Row w' (some ⟨g', 0, none⟩) (blw zs).length (blw zs) ∧ Below w.heap.size w w' := by
  have hz := h.len
  match n, hz with
  | 0, hz =>
    obtain rfl : zs = [] := List.eq_nil_of_length_eq_zero hz
    exact (below_none (some ⟨g, 0, none⟩) 0 w (fun _ => rfl)).mono fun e w' ⟨g', cap, h1, h2, _, h4⟩ => ⟨g', cap, h1, h2, h4⟩
  | k + 1, hz =>
    have h0 : zs.length ≠ 0 := by omega
    have hi := ends_iff h0
    rw [show zs.length - 1 = k from by omega] at hi
    cases he : ends zs with
    | true =>
      have hb : blw zs = zs ++ [-2] := by unfold blw; rw [he]; rfl
      have hl' : (zs ++ [-2] : List Int).length = k + 1 + 1 := by simp [hz]
      rw [he] at hi
      rw [hb, hl']
      exact (below_ends g 0 k (k + 1) zs _ w hl h rfl (by rw [bne, ← hi]; rfl)).mono fun e w' ⟨g', cap, h1, h2, _, h4⟩ => ⟨g', cap, h1, h2, h4⟩
    | false =>
      have hb : blw zs = zs ++ [47] ++ [-2] := by unfold blw; rw [he]; simp
      have hl' : (zs ++ [47] ++ [-2] : List Int).length = k + 1 + 1 + 1 := by simp [hz]
      rw [he] at hi
      rw [hb, hl']
      exact (below_plain g 0 k (k + 1) zs _ w hl h rfl (by rw [bne, ← hi]; rfl)).mono fun e w' ⟨g', cap, h1, h2, _, h4⟩ => ⟨g', cap, h1, h2, h4⟩

set_option maxHeartbeats 1000000 in
theorem zbelow_any (a : Option Addr) (n c : Nat) (zs : List Int) (w : World) (hl : n ≤ 1048576) (h : Row w a n zs) :
    Calls Try.prog 8 #[.slice a n c] w fun e w' => ∃ g, e = .returned (.slice (some ⟨g, 0, none⟩) (blw zs).length (blw zs).length) ∧ Row w' (some ⟨g, 0, none⟩) (blw zs).length (blw zs) ∧ Below w.heap.size w w' := by
  have hz := h.len
  have hbl := (blw_bounds zs).2
  go_enter Try.func8, Try.ntmps8
  go_wp2_with fail
  refine (span_any a n c zs _ hl h).mono ?_
  rintro e w1 ⟨g1, rfl, hR1, hb1⟩
  go_wp2_with fail
  refine (below_any g1 n zs _ hl hR1).mono ?_
  rintro e w2 ⟨g2, cap, rfl, hR2, hb2⟩
  have hb2' := hb1.trans (hb2.mono hb1.size)
  go_wp2_with fail
  refine (units_any _ _ cap (blw zs) _ (by omega) hR2).mono ?_
  rintro e w3 ⟨g3, rfl, hR3, hb3⟩
  go_wp2
  go_ret
  exact ⟨g3, rfl, hR3, hb2'.trans (hb3.mono hb2'.size)⟩

set_option maxHeartbeats 400000 in
/-- At the place behind a list that is not empty. -/
theorem canEnd_last (b off k c : Nat) (zs : List Int) (z : Int) (w : World) (hl : k + 1 ≤ 1048576) (h : Row w (some ⟨b, off, none⟩) (k + 1) zs) (hlast : Hid (zs.getD k 0 = z)) :
    Calls Try.prog 7 #[.slice (some ⟨b, off, none⟩) (k + 1) c, .int .i64 ((k : Int) + 1 + 1)] w fun e w' => e = .returned (.bool (z == 47)) ∧ w' = w := by
  have hcl := h.cell (k := k) (by omega)
  rw [hlast.out] at hcl
  go_enter Try.func7, Try.ntmps7
  go_wp2
  go_ret
  exact ⟨ret_bool (by rw [decide_eq_false (by omega), Bool.false_or]), rfl⟩

/-- A copy into a row of the call's own, from place off on. -/
theorem splice_ints (L : List Int) (off : Nat) (cs : List Int) : splice (L.map (Value.int .i32)) off (cs.map (Value.int .i32)) = (splice L off cs).map (Value.int .i32) := by
  simp [splice, List.map_take, List.map_drop]

section
variable {w : World} {ops : Array Oper} {rest : List Oper} {o : Oper} {a : Act} {Q : Exit → Act → World → Prop}
theorem wpList_copy_blk (hg : o.guard = none) (d s : Operand) (hop : o.op = .call { callee := .builtin .copy, args := #[d, s], argTypes := #[22, 22] }) (g off : Nat) (dp sa : Option Addr) (dLen dCap m scap : Nat) (hd : a.eval d = .slice dp dLen dCap) (hs : a.eval s = .slice sa m scap)
    (L zs : List Int) (hz : Blk w g 21 L) (hr : Row w sa m zs) (hdp : 0 < m → dp = some ⟨g, off, none⟩) (hm : m ≤ dLen) (hfit : off + m ≤ L.length)
    (hK : ∀ w', Blk w' g 21 (splice L off zs) → Below g w w' → wpList Try.prog ops Q rest (a.put o.dst (.int .i64 m)) w') : wpList Try.prog ops Q (o :: rest) a w := by
  have hlen := hr.len
  refine wpList_copy_splice hg d s 22 22 hop 21 Try.underlying22 size21 dp sa dLen dCap m scap hd hs g off _ 21 hz (zs.map (Value.int .i32)) (by rw [List.length_map, hlen]; exact (Nat.min_eq_left hm).symm) ?_ (by simp [hlen]; omega) (ints_oneCell _ _) g w (Below.refl _ _) (Nat.le_refl _) ?_
  · intro h0
    have h0' : 0 < m := by simpa [hlen] using h0
    obtain ⟨b, of, rfl, hc⟩ := hr.2 h0'
    refine ⟨hdp h0', _, rfl, fun j v hj => ?_⟩
    have hjn : j < m := by
      have := (List.getElem?_eq_some_iff.1 hj).1
      simpa [hlen] using this
    rw [Addr.add_lit, hc j hjn]
    simp [hlen, hjn] at hj
    simp [hlen, hjn, hj]
  · intro w' hh hb
    have hh' := hh.out
    rw [splice_ints] at hh'
    have := hK w' hh' hb
    simpa [goInt, hlen] using this
end

end Go.Proofs.Qxb6632653a
