/- What came in, opened: a slice of AVPs, a slice of bytes. -/
import Derived.Test.Qxb6634833aLeaf
import Derived.Deep.SlicePairs
import Derived.OpenShut
import Derived.ChangeOld
namespace Go.Proofs.Qxb6634833a
open Go.RowKit Go.ChangeShapes Go.WideShapes Go.ChangeAt Go.Deep

theorem cells36 : Try.prog.cellsOf 36 = 5 := by kernel_rfl
theorem cells23 : Try.prog.cellsOf 23 = 1 := by kernel_rfl
theorem cells5 : Try.prog.cellsOf 5 = 1 := by kernel_rfl
theorem cells24 : Try.prog.cellsOf 24 = 1 := by kernel_rfl

section
variable {H : Type} {enc : TypeId × Value → H} {W : World}

/-- A slice of bytes that came in. -/
theorem open_dat {fuel : Nat} {v : Value} {x : DataW H × List MemPlace} (h : DataW.trod enc Try.prog W 0 (fun _ => true) true fuel 24 [v] = some x) : ∃ a n c, v = .slice a n c ∧ Dat W a n := by
  rcases open_ints Try.underlying24 Try.underlying5 cells5 h with ⟨hcs, _⟩ | ⟨x, l, c, zs, hcs, _, hl, hm, hz, _, hcell, _⟩
  · simp only [List.cons.injEq, and_true] at hcs
    exact ⟨none, 0, 0, hcs, Nat.zero_le _, fun h0 => absurd h0 (by omega)⟩
  · simp only [List.cons.injEq, and_true] at hcs
    refine ⟨some x, l, c, hcs, Nat.le_trans hl hm, fun h0 => ?_⟩
    have hz' : zs.length = c := by simpa using hz
    obtain ⟨b, off, spot⟩ := x
    have hspot : spot = none := by simpa [Addr.add] using World.cell?_spot (hcell 0 (by omega))
    subst hspot
    refine ⟨b, off, rfl, fun k hk => ⟨zs.getD k 0, ?_⟩⟩
    have := hcell k (by omega)
    rw [add_plain] at this
    exact this

/-- One AVP that came in. -/
theorem open_avp {fuel i : Nat} {a : Addr} {cs : List Value} {x : DataW H × List MemPlace} (h1 : W.cells? 0 (a.add (i * 5)) 5 = some cs) (h2 : DataW.trod enc Try.prog W 0 (fun _ => true) true fuel 36 cs = some x) :
    ∃ y : Av, (∀ f, f < 5 → W.cell? (a.add (i * 5 + f)) = some (cv y f)) ∧ Dat W y.da y.dn := by
  obtain ⟨_, hlen, hcell⟩ := World.cells?_some h1
  obtain ⟨xs, k, hk, hxy, _, hxl, hf⟩ := DataW.trod_struct Try.underlying36 h2
  match xs, hxl, cs, hlen with
  | [y0, y1, y2, y3, y4], _, [v0, v1, v2, v3, v4], _ =>
    have g0 := hf 0 _ rfl
    have g1 := hf 1 _ rfl
    have g2 := hf 2 _ rfl
    have g3 := hf 3 _ rfl
    have g4 := hf 4 _ rfl
    simp [cells23, cells5, cells24] at g0 g1 g2 g3 g4
    obtain ⟨n0, e0, _, _⟩ := DataW.trod_int Try.underlying23 g0
    obtain ⟨n1, e1, _, _⟩ := DataW.trod_int Try.underlying5 g1
    obtain ⟨n2, e2, _, _⟩ := DataW.trod_int Try.underlying23 g2
    obtain ⟨n3, e3, _, _⟩ := DataW.trod_int Try.underlying23 g3
    obtain ⟨da, dn, dc, rfl, hd⟩ := open_dat g4
    simp only [List.cons.injEq, and_true] at e0 e1 e2 e3
    subst e0 e1 e2 e3
    refine ⟨⟨n0, n1, n2, n3, da, dn, dc⟩, fun f hf => ?_, hd⟩
    have c := hcell f hf
    rw [add_add] at c
    rw [c]
    match f, hf with
    | 0, _ => rfl
    | 1, _ => rfl
    | 2, _ => rfl
    | 3, _ => rfl
    | 4, _ => rfl

/-- A slice of AVPs that came in. -/
theorem open_avps {fuel : Nat} {a : Option Addr} {n c : Nat} {x : DataW H × List MemPlace} (h : DataW.trod enc Try.prog W 0 (fun _ => true) true fuel 22 [.slice a n c] = some x) :
    ∃ xs, Row W a n xs ∧ n ≤ maxLen ∧ n ≤ c ∧ ∀ j, j < n → Dat W (xs.getD j zav).da (xs.getD j zav).dn := by
  rcases open_slice Try.underlying22 h with ⟨hcs, _⟩ | ⟨x, l, cp, m, nn, D, Pl, hcs, hb, hl, hm, hmm, _, hx⟩
  · simp only [List.cons.injEq, Value.slice.injEq, and_true] at hcs
    obtain ⟨rfl, rfl, rfl⟩ := hcs
    exact ⟨[], ⟨rfl, fun h0 => absurd h0 (by omega)⟩, Nat.zero_le _, Nat.le_refl _, fun j hj => absurd hj (by omega)⟩
  · simp only [List.cons.injEq, Value.slice.injEq, and_true] at hcs
    obtain ⟨rfl, rfl, rfl⟩ := hcs
    have hm2 : m = c := by simpa using hmm
    rw [cells36] at hx
    have each : ∀ i, i < n → ∃ y : Av, (∀ f, f < 5 → W.cell? (x.add (i * 5 + f)) = some (cv y f)) ∧ Dat W y.da y.dn := fun i hi => by
      obtain ⟨cs', h1, h2⟩ := hx i (by omega)
      exact open_avp h1 h2
    obtain ⟨q, hq⟩ := @choose_lt Av ⟨zav⟩ n _ each
    have hg : ∀ j, j < n → ((List.range n).map q).getD j zav = q j := fun j hj => by simp [List.getD, hj]
    refine ⟨(List.range n).map q, ⟨by simp, fun h0 => ?_⟩, Nat.le_trans hl hm, hl, fun j hj => ?_⟩
    · obtain ⟨b, off, spot⟩ := x
      have hspot : spot = none := by simpa [Addr.add] using World.cell?_spot ((hq 0 h0).1 0 (by omega))
      subst hspot
      refine ⟨b, off, rfl, fun i hi => ?_⟩
      rw [hg i hi]
      have c0 := (hq i hi).1 0 (by omega)
      have c1 := (hq i hi).1 1 (by omega)
      have c2 := (hq i hi).1 2 (by omega)
      have c3 := (hq i hi).1 3 (by omega)
      have c4 := (hq i hi).1 4 (by omega)
      rw [add_plain] at c0 c1 c2 c3 c4
      exact ⟨c0, c1, c2, c3, c4⟩
    · rw [hg j hj]
      exact (hq j hj).2
end

end Go.Proofs.Qxb6634833a
