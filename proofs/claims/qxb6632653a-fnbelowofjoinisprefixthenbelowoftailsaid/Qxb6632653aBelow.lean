/- The span below a span. -/
import Derived.Test.Qxb6632653aSpan
import Derived.Deep.DeepCutAuto
namespace Go.Proofs.Qxb6632653a
open Go.RowKit

/-- A row of the call's own with room: block g, k units of cap. -/
def Own (w : World) (g k cap : Nat) (xs : List Int) : Prop := w.ownsRow g 33 1 (.slice (some ⟨g, 0, none⟩) k cap) k (xs.map (Value.int .i32))

theorem Own.lt {w : World} {g k cap : Nat} {xs : List Int} (h : Own w g k cap xs) : g < w.heap.size := (World.ownsRow.lt h g rfl).2
theorem Own.row {w : World} {g k cap : Nat} {xs : List Int} (h : Own w g k cap xs) : Row w (some ⟨g, 0, none⟩) k xs := by
  have hl : xs.length = k := by have := h.1; simpa using this
  refine ⟨hl, fun _ => ⟨g, 0, rfl, fun i hi => ?_⟩⟩
  have := World.ownsRow.cellAt h i (by omega)
  rw [Nat.zero_add, this]
  simp [hl, hi]
theorem Own.alloc {w : World} {g k cap : Nat} {xs : List Int} (h : Own w g k cap xs) (o : Obj) : Own (w.alloc o) g k cap xs := World.ownsRow.alloc h o
theorem Own.drewN {w : World} {g k cap : Nat} {xs : List Int} (h : Own w g k cap xs) (n : Nat) : Own (w.drewN n) g k cap xs := h
theorem Own.drew {w : World} {g k cap : Nat} {xs : List Int} (h : Own w g k cap xs) : Own w.drew g k cap xs := h
theorem Own.setCell {w : World} {g k cap : Nat} {xs : List Int} (h : Own w g k cap xs) {p : Addr} (hp : g ≠ p.block) (u : Value) : Own (w.setCell p u) g k cap xs := by
  obtain ⟨h1, h2⟩ := h
  refine ⟨h1, ?_⟩
  rcases h2 with h2 | ⟨g', cap', cur, hv, hg, hh, r⟩
  · exact Or.inl h2
  · have e : g' = g := by simp only [Value.slice.injEq, Option.some.injEq, Addr.mk.injEq, and_true] at hv; exact hv.1.symm
    subst e
    exact Or.inr ⟨g', cap', cur, hv, hg, by rw [heap_setCell_other w p g' u hp]; exact hh, r⟩
theorem Var.drewN {w : World} {g : Nat} {t : TypeId} {v : Value} (h : Var w g t v) (n : Nat) : Var (w.drewN n) g t v := h
theorem Var.alloc {w : World} {g : Nat} {t : TypeId} {v : Value} (h : Var w g t v) (o : Obj) : Var (w.alloc o) g t v := by
  have hlt := h.lt
  unfold Var at *
  rw [Below.heap_alloc w o g hlt]; exact h
theorem Var.grown {w w' : World} {g : Nat} {t : TypeId} {v : Value} {row : Nat} (h : Var w g t v) (hg : w.grownBy w' (some row)) (hne : g ≠ row) : Var w' g t v := by
  have hlt := h.lt
  unfold Var at *
  rw [hg.block g hlt (by simpa using hne)]; exact h

section
variable {w : World} {ops : Array Oper} {rest : List Oper} {o : Oper} {a : Act} {Q : Exit → Act → World → Prop}
theorem wpList_make_room (hg : o.guard = none) (l c : Operand) (hop : o.op = Op.makeSlice 28 l c) (n : Nat) (kl kc : IntKind) (C : Int) (hl : a.eval l = .int kl 0) (hc : a.eval c = .int kc C) (hC : C = (n : Int)) (hn : n ≤ 4194304)
    (hK : ∀ w', Own w' w.heap.size 0 n [] → Below w.heap.size w w' → wpList Try.prog ops Q rest (a.put o.dst (.slice (some ⟨w.heap.size, 0, none⟩) 0 n)) w') : wpList Try.prog ops Q (o :: rest) a w := by
  obtain ⟨i0, hi, hz0, hz1, hz2⟩ := info_parts info33
  refine wpList_make_own w hg l c 28 hop w.heap.size 33 i0 _ 1 Try.underlying28 hi hz0 hz1 kl kc C n hl hc hC (by rw [hz2]; omega) (by unfold maxLen; omega) (Nat.le_refl _) ?_
  intro w' hown hgrow
  exact hK w' hown ((Below.refl _ _).grown hgrow (Nat.le_refl _) (fun k hk => by cases hk))

/-- 'append(out, xs...)', within the room. -/
theorem wpList_app (hg : o.guard = none) (s x : Operand) (hop : o.op = Op.call { callee := Callee.builtin Builtin.append, args := #[s, x], argTypes := #[28, 28] }) (g k cap : Nat) (xs zs : List Int) (ao : Option Addr) (m c : Nat)
    (hs : a.eval s = .slice (some ⟨g, 0, none⟩) k cap) (hx : a.eval x = .slice ao m c) (hnil : ao = none → m = 0 ∧ c = 0) (hown : Own w g k cap xs) (hr : Row w ao m zs) (hk : k + m ≤ cap)
    (hK : ∀ w', Own w' g (k + m) cap (xs ++ zs) → w.grownBy w' (some g) → wpList Try.prog ops Q rest (a.put o.dst (.slice (some ⟨g, 0, none⟩) (k + m) cap)) w') : wpList Try.prog ops Q (o :: rest) a w := by
  obtain ⟨i0, hi, hz0, hz1, hz2⟩ := info_parts info33
  have hlen := hr.len
  refine wpList_append_fits_any w hg s x 28 hop g 33 i0 1 Try.underlying28 hi hz1 g k cap _ hs hown ao m c (zs.map (Value.int .i32)) hx (by simp [hlen]) hnil ?_ (ints_oneCell .i32 zs) hk ?_
  · intro ad had j u hj
    have hjn : j < m := by
      have := (List.getElem?_eq_some_iff.1 hj).1
      simpa [hlen] using this
    obtain ⟨b, off, e, hc⟩ := hr.2 (by omega)
    rw [had] at e
    obtain rfl := Option.some.inj e
    rw [Addr.add_lit, hc j hjn]
    simp [hlen, hjn] at hj
    simp [hlen, hjn, hj]
  · intro w' hown' hgrow
    exact hK w' (by unfold Own; simpa using hown') hgrow

end

theorem Own.open {w : World} {g k cap : Nat} {xs : List Int} (h : Own w g k cap xs) : ∃ cur : Array Value, w.heap[g]? = some (.cells cur 33 (0, 0)) ∧ k ≤ cap ∧ cap ≤ maxLen ∧ cur.size = cap ∧ cur.toList.take k = xs.map (Value.int .i32) := by
  obtain ⟨h1, h2⟩ := h
  rcases h2 with ⟨h2, _⟩ | ⟨g', cap', cur, hv, _, hh, hk, hm, hs, ht⟩
  · cases h2
  · simp only [Value.slice.injEq, Option.some.injEq, Addr.mk.injEq, and_true, true_and] at hv
    obtain ⟨rfl, rfl⟩ := hv
    exact ⟨cur, hh, hk, hm, by simpa using hs, by simpa using ht⟩
theorem Own.spare {w : World} {g k cap : Nat} {xs : List Int} (h : Own w g k cap xs) (hk : k < cap) : ∃ v, w.cell? ⟨g, k, none⟩ = some v := by
  obtain ⟨cur, hh, _, _, hs, _⟩ := h.open
  rw [cell_of_row w g _ _ 33 (0, 0) hh]
  exact ⟨cur[k], by simp [hs, hk]⟩
theorem Own.free {w : World} {g k cap : Nat} {xs : List Int} (h : Own w g k cap xs) (i : Nat) : w.frozen? ⟨g, i, none⟩ = false := by
  obtain ⟨cur, hh, _⟩ := h.open
  exact frozen_of_row w g i _ 33 hh
theorem Own.push {w : World} {g k cap : Nat} {xs : List Int} (h : Own w g k cap xs) (hk : k < cap) (z : Int) : Own (w.setCell ⟨g, k, none⟩ (.int .i32 z)) g (k + 1) cap (xs ++ [z]) := by
  have hl : xs.length = k := by have := h.1; simpa using this
  obtain ⟨cur, hh, _, hm, hs, ht⟩ := h.open
  refine ⟨by simp [hl], .inr ⟨g, cap, cur.setIfInBounds k (.int .i32 z), rfl, Nat.le_refl _, heap_setCell_same w g k _ 33 _ hh, by omega, hm, by simp [hs], ?_⟩⟩
  rw [Nat.mul_one, Array.toList_setIfInBounds, List.map_append, ← ht]
  apply List.ext_getElem?
  intro i
  rw [List.getElem?_take]
  have hcl : cur.toList.length = cap := by simpa using hs
  by_cases hi : i < k
  · rw [if_pos (by omega), List.getElem?_set_ne (by omega), List.getElem?_append_left (by simp [hcl]; omega), List.getElem?_take_of_lt hi]
  · by_cases hi2 : i = k
    · subst hi2
      rw [if_pos (by omega), List.getElem?_set_self (by omega), List.getElem?_append_right (by rw [List.length_take]; omega), List.length_take, hcl, Nat.min_eq_left (by omega), Nat.sub_self]
      rfl
    · rw [if_neg (by omega), List.getElem?_eq_none (by simp [hcl]; omega)]

/-- The state of the walk: the receiver's copy p, the result r, the span under way q over the row g. -/
structure St (w0 w : World) (q g : Nat) (sv : Value) (k cap : Nat) (xs : List Int) : Prop where
  recv : Var w w0.heap.size 30 sv
  res : Var w (w0.heap.size + 1) 30 (.slice none 0 0)
  span : Var w q 30 (.slice (some ⟨g, 0, none⟩) k cap)
  own : Own w g k cap xs
  gq : g ≠ q
  lowg : w0.heap.size + 2 ≤ g
  lowq : w0.heap.size + 2 ≤ q
  below : Below w0.heap.size w0 w

theorem St.stored {w0 w w' : World} {q g : Nat} {sv : Value} {k k' cap : Nat} {xs xs' : List Int} (h : St w0 w q g sv k cap xs) (hown : Own w' g k' cap xs') (hgrow : w.grownBy w' (some g)) :
    St w0 (w'.setCell ⟨q, 0, none⟩ (.slice (some ⟨g, 0, none⟩) k' cap)) q g sv k' cap xs' := by
  have hg := h.lowg
  have hq := h.lowq
  have hgq := h.gq
  refine ⟨(h.recv.grown hgrow (by omega)).other (by show _ ≠ q; omega) _, (h.res.grown hgrow (by omega)).other (by show _ ≠ q; omega) _, (h.span.grown hgrow (fun e => hgq e.symm)).set _, hown.setCell hgq _, hgq, hg, hq, ?_⟩
  exact (h.below.grown hgrow h.below.size (fun j hj => by cases hj; omega)).setCell (by show _ ≤ q; omega) _

theorem St.push {w0 w : World} {q g : Nat} {sv : Value} {k cap : Nat} {xs : List Int} (h : St w0 w q g sv k cap xs) (hk : k < cap) (z : Int) (o : Obj) :
    St w0 (((w.setCell ⟨g, k, none⟩ (.int .i32 z)).setCell ⟨q, 0, none⟩ (.slice (some ⟨g, 0, none⟩) (k + 1) cap)).alloc o) q g sv (k + 1) cap (xs ++ [z]) := by
  have hg := h.lowg
  have hq := h.lowq
  have hgq := h.gq
  refine ⟨((h.recv.other (by show _ ≠ g; omega) _).other (by show _ ≠ q; omega) _).alloc o, ((h.res.other (by show _ ≠ g; omega) _).other (by show _ ≠ q; omega) _).alloc o, ((h.span.other (by show _ ≠ g; omega) _).set _).alloc o,
    ((h.own.push hk z).setCell hgq _).alloc o, hgq, hg, hq, ?_⟩
  have := (h.below.setCell (p := ⟨g, k, none⟩) (by show _ ≤ g; omega) (.int .i32 z)).setCell (p := ⟨q, 0, none⟩) (by show _ ≤ q; omega) (.slice (some ⟨g, 0, none⟩) (k + 1) cap)
  exact this.alloc this.size _
theorem St.drew {w0 w : World} {q g : Nat} {sv : Value} {k cap : Nat} {xs : List Int} (h : St w0 w q g sv k cap xs) : St w0 w.drew q g sv k cap xs :=
  ⟨h.recv, h.res, h.span, h.own, h.gq, h.lowg, h.lowq, h.below.drew⟩
theorem St.drewN {w0 w : World} {q g : Nat} {sv : Value} {k cap : Nat} {xs : List Int} (h : St w0 w q g sv k cap xs) (n : Nat) : St w0 (w.drewN n) q g sv k cap xs :=
  ⟨h.recv, h.res, h.span, h.own, h.gq, h.lowg, h.lowq, h.below.trans (below_drewN _ _ _)⟩

theorem St.ended {w0 w : World} {q g : Nat} {sv : Value} {k cap : Nat} {xs : List Int} (h : St w0 w q g sv k cap xs) :
    (w.setCell ⟨w0.heap.size + 1, 0, none⟩ (.slice (some ⟨g, 0, none⟩) k cap)).cell? ⟨w0.heap.size + 1, 0, none⟩ = some (.slice (some ⟨g, 0, none⟩) k cap) ∧
    Row (w.setCell ⟨w0.heap.size + 1, 0, none⟩ (.slice (some ⟨g, 0, none⟩) k cap)) (some ⟨g, 0, none⟩) k xs ∧ Below w0.heap.size w0 (w.setCell ⟨w0.heap.size + 1, 0, none⟩ (.slice (some ⟨g, 0, none⟩) k cap)) := by
  have hg := h.lowg
  exact ⟨(h.res.set _).cell, (h.own.setCell (by show _ ≠ w0.heap.size + 1; omega) _).row, h.below.setCell (by show _ ≤ w0.heap.size + 1; omega) _⟩

set_option maxHeartbeats 2000000 in
theorem below_none (a : Option Addr) (c : Nat) (w : World) (hnil : a = none → c = 0) :
    Calls Try.prog 13 #[.agg #[.slice a 0 c]] w fun e w' => ∃ g cap, e = .returned (.agg #[.slice (some ⟨g, 0, none⟩) 2 cap]) ∧ Row w' (some ⟨g, 0, none⟩) 2 [47, -2] ∧ 2 ≤ cap ∧ Below w.heap.size w w' := by
  have h : Row w a 0 [] := ⟨rfl, fun e => by omega⟩
  have hW : Below w.heap.size w ((w.alloc (.cells #[.slice a 0 c] 30)).alloc (.cells #[.slice none 0 0] 30)) := ((Below.refl _ _).alloc (Nat.le_refl _) _).alloc (by simp) _
  have hV := (Var.made w 30 (.slice a 0 c)).alloc (.cells #[.slice none 0 0] 30)
  have hV' := Var.made (w.alloc (.cells #[.slice a 0 c] 30)) 30 (.slice none 0 0)
  go_enter Try.func13, Try.ntmps13
  go_upto_region 3 with (at_make; refine wpList_make_room rfl _ _ rfl 2 _ _ _ rfl rfl (by omega) (by omega) ?_; intro w1 hO1 hb1; have hc0 := (hV.below hb1 (by rw [World.size_alloc, World.size_alloc]; omega)).cell)
  have hSt : St w (w1.alloc (.cells #[.slice (some ⟨w.heap.size + 1 + 1, 0, none⟩) 0 2] 30)) w1.heap.size (w.heap.size + 1 + 1) (.slice a 0 c) 0 2 [] := by
    have hO1' : Own w1 (w.heap.size + 1 + 1) 0 2 [] := by simpa using hO1
    have hlt := hO1'.lt
    have hbw : Below w.heap.size w w1 := hW.trans (hb1.mono (by rw [World.size_alloc, World.size_alloc]; omega))
    have hr : Var w1 (w.heap.size + 1) 30 (.slice none 0 0) := by simpa using hV'.below hb1 (by simp)
    exact ⟨(hV.below hb1 (by rw [World.size_alloc, World.size_alloc]; omega)).alloc _, hr.alloc _, Var.made w1 30 _, hO1'.alloc _, by omega, by omega, by omega, hbw.alloc hbw.size _⟩
  clear hW hV hV' hO1 hb1 hc0
  generalize w1.alloc (.cells #[.slice (some ⟨w.heap.size + 1 + 1, 0, none⟩) 0 2] 30) = W at hSt ⊢
  generalize w1.heap.size = q at hSt ⊢
  generalize w.heap.size + 1 + 1 = g at hSt ⊢
  have hR := h.later hSt.below
  have hc0 := hSt.recv.cell
  have hc1 := hSt.span.cell
  go_upto_region 4 with (at_builtin; refine wpList_app rfl _ _ rfl g 0 2 [] ([] : List Int) a 0 c rfl rfl (fun e => ⟨rfl, hnil e⟩) hSt.own hR (by omega) ?_; intro w3 hO3 hg3; have hc3 := (hSt.span.grown hg3 (fun e => hSt.gq e.symm)).cell; have hf3 := (hSt.span.grown hg3 (fun e => hSt.gq e.symm)).free)
  have hSt3 := hSt.stored hO3 hg3
  simp only [Nat.zero_add, List.nil_append] at hSt3
  clear hSt hR hc0 hc1 hO3 hg3 hc3 hf3
  generalize w3.setCell ⟨q, 0, none⟩ (.slice (some ⟨g, 0, none⟩) 0 2) = W3 at hSt3 ⊢
  have hc0 := hSt3.recv.cell
  have h47 : ((({ data := #[47] } : ByteArray)[0]'(by decide)).toNat : Int) = 47 := rfl
  have h47w : wrap32 47 = 47 := by unfold wrap32; omega
  have h47i : IntKind.i32.wrap 47 = 47 := by decide
  go_quiet (fail)
  have hSt4 := hSt3.drewN nq
  generalize W3.drewN nq = W4 at hSt4 ⊢
  have hqg := hSt4.gq
  have hgq : q ≠ g := fun e => hqg e.symm
  clear hc0 hSt3
  go_upto_region 5 with fail
  have hc1 := hSt4.span.cell
  have hf1 := hSt4.span.free
  have hlt := hSt4.span.lt
  have hltg := hSt4.own.lt
  obtain ⟨v0, hsp⟩ := hSt4.own.spare (by omega)
  have hfg := hSt4.own.free (0)
  go_region
  have hSt5 := (hSt4.push (by omega) 47 (.cells #[.int .i32 47] 33)).drew
  clear hSt4 hc1 hf1 hlt hltg hsp hfg
  simp only [Nat.zero_add, List.nil_append] at hSt5
  generalize (((W4.setCell ⟨g, 0, none⟩ (.int .i32 47)).setCell ⟨q, 0, none⟩ (.slice (some ⟨g, 0, none⟩) 1 2)).alloc (.cells #[.int .i32 47] 33)).drew = W5 at hSt5 ⊢
  have hc1 := hSt5.span.cell
  have hf1 := hSt5.span.free
  have hlt := hSt5.span.lt
  have hltg := hSt5.own.lt
  obtain ⟨v1, hsp⟩ := hSt5.own.spare (by omega)
  have hfg := hSt5.own.free (1)
  go_upto_region 7 with fail
  have hSt6 := hSt5.push (by omega) (-2) (.cells #[.int .i32 (-2)] 33)
  simp only [Nat.reduceAdd, List.cons_append, List.nil_append] at hSt6
  clear hSt5 hc1 hf1 hlt hltg hsp hfg
  generalize ((W5.setCell ⟨g, 1, none⟩ (.int .i32 (-2))).setCell ⟨q, 0, none⟩ (.slice (some ⟨g, 0, none⟩) 2 2)).alloc (.cells #[.int .i32 (-2)] 33) = W6 at hSt6 ⊢
  have hc1 := hSt6.span.cell
  have hc2 := hSt6.res.cell
  have hf2 := hSt6.res.free
  obtain ⟨r1, r2, r3⟩ := hSt6.ended
  go_wp2
  exact bodyPost_ret (v := .agg #[.slice (some ⟨g, 0, none⟩) 2 2]) (by simp [results, Try.results13, go_sem, r1]) rfl ⟨g, _, rfl, r2, by omega, r3⟩

set_option maxHeartbeats 2000000 in
theorem below_plain (b off : Nat) (k c : Nat) (zs : List Int) (z : Int) (w : World) (hl : k + 1 ≤ 1048576) (h : Row w (some ⟨b, off, none⟩) (k + 1) zs) (hlast : Hid (zs.getD k 0 = z)) (hne : (z != 47) = true) :
    Calls Try.prog 13 #[.agg #[.slice (some ⟨b, off, none⟩) (k + 1) c]] w fun e w' => ∃ g cap, e = .returned (.agg #[.slice (some ⟨g, 0, none⟩) (k + 1 + 1 + 1) cap]) ∧ Row w' (some ⟨g, 0, none⟩) (k + 1 + 1 + 1) (zs ++ [47] ++ [-2]) ∧ (k + 1 + 1 + 1) ≤ cap ∧ Below w.heap.size w w' := by
  have hW : Below w.heap.size w ((w.alloc (.cells #[.slice (some ⟨b, off, none⟩) (k + 1) c] 30)).alloc (.cells #[.slice none 0 0] 30)) := ((Below.refl _ _).alloc (Nat.le_refl _) _).alloc (by simp) _
  have hV := (Var.made w 30 (.slice (some ⟨b, off, none⟩) (k + 1) c)).alloc (.cells #[.slice none 0 0] 30)
  have hV' := Var.made (w.alloc (.cells #[.slice (some ⟨b, off, none⟩) (k + 1) c] 30)) 30 (.slice none 0 0)
  go_enter Try.func13, Try.ntmps13
  go_upto_region 3 with (at_make; refine wpList_make_room rfl _ _ rfl (k + 1 + 2) _ _ _ rfl rfl (by omega) (by omega) ?_; intro w1 hO1 hb1; have hc0 := (hV.below hb1 (by rw [World.size_alloc, World.size_alloc]; omega)).cell)
  have hSt : St w (w1.alloc (.cells #[.slice (some ⟨w.heap.size + 1 + 1, 0, none⟩) 0 (k + 1 + 2)] 30)) w1.heap.size (w.heap.size + 1 + 1) (.slice (some ⟨b, off, none⟩) (k + 1) c) 0 (k + 1 + 2) [] := by
    have hO1' : Own w1 (w.heap.size + 1 + 1) 0 (k + 1 + 2) [] := by simpa using hO1
    have hlt := hO1'.lt
    have hbw : Below w.heap.size w w1 := hW.trans (hb1.mono (by rw [World.size_alloc, World.size_alloc]; omega))
    have hr : Var w1 (w.heap.size + 1) 30 (.slice none 0 0) := by simpa using hV'.below hb1 (by simp)
    exact ⟨(hV.below hb1 (by rw [World.size_alloc, World.size_alloc]; omega)).alloc _, hr.alloc _, Var.made w1 30 _, hO1'.alloc _, by omega, by omega, by omega, hbw.alloc hbw.size _⟩
  clear hW hV hV' hO1 hb1 hc0
  generalize w1.alloc (.cells #[.slice (some ⟨w.heap.size + 1 + 1, 0, none⟩) 0 (k + 1 + 2)] 30) = W at hSt ⊢
  generalize w1.heap.size = q at hSt ⊢
  generalize w.heap.size + 1 + 1 = g at hSt ⊢
  have hR := h.later hSt.below
  have hc0 := hSt.recv.cell
  have hc1 := hSt.span.cell
  go_upto_region 4 with (at_builtin; refine wpList_app rfl _ _ rfl g 0 (k + 1 + 2) [] zs _ (k + 1) c rfl rfl (fun e => by cases e) hSt.own hR (by omega) ?_; intro w3 hO3 hg3; have hc3 := (hSt.span.grown hg3 (fun e => hSt.gq e.symm)).cell; have hf3 := (hSt.span.grown hg3 (fun e => hSt.gq e.symm)).free)
  have hSt3 := hSt.stored hO3 hg3
  simp only [Nat.zero_add, List.nil_append] at hSt3
  clear hSt hR hc0 hc1 hO3 hg3 hc3 hf3
  generalize w3.setCell ⟨q, 0, none⟩ (.slice (some ⟨g, 0, none⟩) (k + 1) (k + 1 + 2)) = W3 at hSt3 ⊢
  have hc0 := hSt3.recv.cell
  have h47 : ((({ data := #[47] } : ByteArray)[0]'(by decide)).toNat : Int) = 47 := rfl
  have h47w : wrap32 47 = 47 := by unfold wrap32; omega
  have h47i : IntKind.i32.wrap 47 = 47 := by decide
  have hcl := (h.later hSt3.below).cell (k := k) (by omega)
  rw [hlast.out] at hcl
  have hn0 : ((k : Int) + 1 == 0) = false := by simp; omega
  have hi0 : (0 : Int) ≤ (k : Int) := by omega
  have hi1 : (k : Int) < (k : Int) + 1 := by omega
  go_quiet (fail)
  have hSt4 := hSt3.drewN nq
  generalize W3.drewN nq = W4 at hSt4 ⊢
  have hqg := hSt4.gq
  have hgq : q ≠ g := fun e => hqg e.symm
  clear hc0 hcl hSt3
  go_upto_region 5 with fail
  have hc1 := hSt4.span.cell
  have hf1 := hSt4.span.free
  have hlt := hSt4.span.lt
  have hltg := hSt4.own.lt
  obtain ⟨v0, hsp⟩ := hSt4.own.spare (by omega)
  have hfg := hSt4.own.free (k + 1)
  go_region
  have hSt5 := (hSt4.push (by omega) 47 (.cells #[.int .i32 47] 33)).drew
  clear hSt4 hc1 hf1 hlt hltg hsp hfg
  generalize (((W4.setCell ⟨g, k + 1, none⟩ (.int .i32 47)).setCell ⟨q, 0, none⟩ (.slice (some ⟨g, 0, none⟩) (k + 1 + 1) (k + 1 + 2))).alloc (.cells #[.int .i32 47] 33)).drew = W5 at hSt5 ⊢
  have hc1 := hSt5.span.cell
  have hf1 := hSt5.span.free
  have hlt := hSt5.span.lt
  have hltg := hSt5.own.lt
  obtain ⟨v1, hsp⟩ := hSt5.own.spare (by omega)
  have hfg := hSt5.own.free (k + 1 + 1)
  go_upto_region 7 with fail
  have hSt6 := hSt5.push (by omega) (-2) (.cells #[.int .i32 (-2)] 33)
  clear hSt5 hc1 hf1 hlt hltg hsp hfg
  generalize ((W5.setCell ⟨g, k + 1 + 1, none⟩ (.int .i32 (-2))).setCell ⟨q, 0, none⟩ (.slice (some ⟨g, 0, none⟩) (k + 1 + 1 + 1) (k + 1 + 2))).alloc (.cells #[.int .i32 (-2)] 33) = W6 at hSt6 ⊢
  have hc1 := hSt6.span.cell
  have hc2 := hSt6.res.cell
  have hf2 := hSt6.res.free
  obtain ⟨r1, r2, r3⟩ := hSt6.ended
  go_wp2
  exact bodyPost_ret (v := .agg #[.slice (some ⟨g, 0, none⟩) (k + 1 + 1 + 1) (k + 1 + 2)]) (by simp [results, Try.results13, go_sem, r1]) rfl ⟨g, _, rfl, r2, by omega, r3⟩

set_option maxHeartbeats 2000000 in
theorem below_ends (b off : Nat) (k c : Nat) (zs : List Int) (z : Int) (w : World) (hl : k + 1 ≤ 1048576) (h : Row w (some ⟨b, off, none⟩) (k + 1) zs) (hlast : Hid (zs.getD k 0 = z)) (hne : (z != 47) = false) :
    Calls Try.prog 13 #[.agg #[.slice (some ⟨b, off, none⟩) (k + 1) c]] w fun e w' => ∃ g cap, e = .returned (.agg #[.slice (some ⟨g, 0, none⟩) (k + 1 + 1) cap]) ∧ Row w' (some ⟨g, 0, none⟩) (k + 1 + 1) (zs ++ [-2]) ∧ (k + 1 + 1) ≤ cap ∧ Below w.heap.size w w' := by
  have hW : Below w.heap.size w ((w.alloc (.cells #[.slice (some ⟨b, off, none⟩) (k + 1) c] 30)).alloc (.cells #[.slice none 0 0] 30)) := ((Below.refl _ _).alloc (Nat.le_refl _) _).alloc (by simp) _
  have hV := (Var.made w 30 (.slice (some ⟨b, off, none⟩) (k + 1) c)).alloc (.cells #[.slice none 0 0] 30)
  have hV' := Var.made (w.alloc (.cells #[.slice (some ⟨b, off, none⟩) (k + 1) c] 30)) 30 (.slice none 0 0)
  go_enter Try.func13, Try.ntmps13
  go_upto_region 3 with (at_make; refine wpList_make_room rfl _ _ rfl (k + 1 + 2) _ _ _ rfl rfl (by omega) (by omega) ?_; intro w1 hO1 hb1; have hc0 := (hV.below hb1 (by rw [World.size_alloc, World.size_alloc]; omega)).cell)
  have hSt : St w (w1.alloc (.cells #[.slice (some ⟨w.heap.size + 1 + 1, 0, none⟩) 0 (k + 1 + 2)] 30)) w1.heap.size (w.heap.size + 1 + 1) (.slice (some ⟨b, off, none⟩) (k + 1) c) 0 (k + 1 + 2) [] := by
    have hO1' : Own w1 (w.heap.size + 1 + 1) 0 (k + 1 + 2) [] := by simpa using hO1
    have hlt := hO1'.lt
    have hbw : Below w.heap.size w w1 := hW.trans (hb1.mono (by rw [World.size_alloc, World.size_alloc]; omega))
    have hr : Var w1 (w.heap.size + 1) 30 (.slice none 0 0) := by simpa using hV'.below hb1 (by simp)
    exact ⟨(hV.below hb1 (by rw [World.size_alloc, World.size_alloc]; omega)).alloc _, hr.alloc _, Var.made w1 30 _, hO1'.alloc _, by omega, by omega, by omega, hbw.alloc hbw.size _⟩
  clear hW hV hV' hO1 hb1 hc0
  generalize w1.alloc (.cells #[.slice (some ⟨w.heap.size + 1 + 1, 0, none⟩) 0 (k + 1 + 2)] 30) = W at hSt ⊢
  generalize w1.heap.size = q at hSt ⊢
  generalize w.heap.size + 1 + 1 = g at hSt ⊢
  have hR := h.later hSt.below
  have hc0 := hSt.recv.cell
  have hc1 := hSt.span.cell
  go_upto_region 4 with (at_builtin; refine wpList_app rfl _ _ rfl g 0 (k + 1 + 2) [] zs _ (k + 1) c rfl rfl (fun e => by cases e) hSt.own hR (by omega) ?_; intro w3 hO3 hg3; have hc3 := (hSt.span.grown hg3 (fun e => hSt.gq e.symm)).cell; have hf3 := (hSt.span.grown hg3 (fun e => hSt.gq e.symm)).free)
  have hSt3 := hSt.stored hO3 hg3
  simp only [Nat.zero_add, List.nil_append] at hSt3
  clear hSt hR hc0 hc1 hO3 hg3 hc3 hf3
  generalize w3.setCell ⟨q, 0, none⟩ (.slice (some ⟨g, 0, none⟩) (k + 1) (k + 1 + 2)) = W3 at hSt3 ⊢
  have hc0 := hSt3.recv.cell
  have h47 : ((({ data := #[47] } : ByteArray)[0]'(by decide)).toNat : Int) = 47 := rfl
  have h47w : wrap32 47 = 47 := by unfold wrap32; omega
  have h47i : IntKind.i32.wrap 47 = 47 := by decide
  have hcl := (h.later hSt3.below).cell (k := k) (by omega)
  rw [hlast.out] at hcl
  have hn0 : ((k : Int) + 1 == 0) = false := by simp; omega
  have hi0 : (0 : Int) ≤ (k : Int) := by omega
  have hi1 : (k : Int) < (k : Int) + 1 := by omega
  go_quiet (fail)
  have hSt4 := hSt3.drewN nq
  generalize W3.drewN nq = W4 at hSt4 ⊢
  have hqg := hSt4.gq
  have hgq : q ≠ g := fun e => hqg e.symm
  clear hc0 hcl hSt3
  obtain ⟨W5, hW5⟩ : ∃ W5, W5 = W4 := ⟨_, rfl⟩
  subst hW5
  have hSt5 := hSt4
  clear hSt4
  have hc1 := hSt5.span.cell
  have hf1 := hSt5.span.free
  have hlt := hSt5.span.lt
  have hltg := hSt5.own.lt
  obtain ⟨v1, hsp⟩ := hSt5.own.spare (by omega)
  have hfg := hSt5.own.free (k + 1)
  go_upto_region 7 with fail
  have hSt6 := hSt5.push (by omega) (-2) (.cells #[.int .i32 (-2)] 33)
  clear hSt5 hc1 hf1 hlt hltg hsp hfg
  generalize ((W5.setCell ⟨g, k + 1, none⟩ (.int .i32 (-2))).setCell ⟨q, 0, none⟩ (.slice (some ⟨g, 0, none⟩) (k + 1 + 1) (k + 1 + 2))).alloc (.cells #[.int .i32 (-2)] 33) = W6 at hSt6 ⊢
  have hc1 := hSt6.span.cell
  have hc2 := hSt6.res.cell
  have hf2 := hSt6.res.free
  obtain ⟨r1, r2, r3⟩ := hSt6.ended
  go_wp2
  exact bodyPost_ret (v := .agg #[.slice (some ⟨g, 0, none⟩) (k + 1 + 1) (k + 1 + 2)]) (by simp [results, Try.results13, go_sem, r1]) rfl ⟨g, _, rfl, r2, by omega, r3⟩

end Go.Proofs.Qxb6632653a
