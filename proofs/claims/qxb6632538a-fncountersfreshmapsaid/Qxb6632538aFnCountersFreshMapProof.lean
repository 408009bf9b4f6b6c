/- The statement of 'CountersFreshMap': the walk put into the row. -/
import Derived.Test.Qxb6632538aRows
import Derived.Test.Qxb6632538aFresh
import Derived.WalkKit
import Derived.ProofKit
import Derived.OpenShut
import Derived.ShutString
import Derived.ChangeOld
import Derived.Below
namespace Go.Proofs.Qxb6632538a.fnCountersFreshMap
open Go.ChangeShapes Go.WideShapes Go.ChangeAt Go.RowKit
open Go.ChangeMaps (open_string shut_string)
set_option linter.unusedVariables false

theorem own : ownKnob Try.prog.godebug = none := by kernel_rfl
theorem laidOut : laidOutB Try.prog = true := by kernel_rfl

/-- WHAT THE WALK IS TOLD OF A SLICE OF INTEGERS THAT CAME IN: it is nil; or it leads to a row of 'cap' cells, the numbers 'zs' (the first 'len' are its elements, the rest its spare room), each fitting its kind. -/
def IsRow (k : IntKind) (w : World) (a : Option Addr) (len cap : Nat) (zs : List Int) : Prop :=
  (a = none ∧ len = 0 ∧ cap = 0 ∧ zs = []) ∨
  ∃ x, a = some x ∧ len ≤ cap ∧ cap ≤ maxLen ∧ zs.length = cap ∧ (∀ i, i < zs.length → w.cell? (x.add i) = some (.int k (zs.getD i 0))) ∧ ∀ n ∈ zs, (Lit.int k n).wf = true

/-- What the shell tells of a slice, in the walk's own words. -/
theorem row_of {w : World} {a : Option Addr} {len cap : Nat} {zs : List Int} (h : IsRow .i64 w a len cap zs) :
    Row w a len (zs.take len) ∧ len ≤ maxLen ∧ (a = none → len = 0 ∧ cap = 0) ∧ ∀ i, (zs.take len).getD i 0 ≤ 9223372036854775807 := by
  rcases h with ⟨rfl, rfl, rfl, rfl⟩ | ⟨x, rfl, hl, hm, hz, hc, hw⟩
  · exact ⟨⟨rfl, fun h => absurd h (by omega)⟩, Nat.zero_le _, fun _ => ⟨rfl, rfl⟩, fun i => by simp⟩
  · refine ⟨⟨by simp [hz, hl], fun h0 => ?_⟩, Nat.le_trans hl hm, (fun e => by cases e), fun i => ?_⟩
    · obtain ⟨b, off, spot⟩ := x
      have hspot : spot = none := by simpa [Addr.add] using World.cell?_spot (hc 0 (by omega))
      subst hspot
      refine ⟨b, off, rfl, fun i hi => ?_⟩
      have := hc i (by omega)
      rw [add_plain] at this
      rw [this]
      simp [hi]
    · by_cases hi : i < (zs.take len).length
      · have hmem : (zs.take len).getD i 0 ∈ zs := by
          rw [show (zs.take len).getD i 0 = (zs.take len)[i] from by rw [List.getD_eq_getElem?_getD, List.getElem?_eq_getElem hi]; rfl]
          exact List.mem_of_mem_take (List.getElem_mem hi)
        exact (Go.bounds_i64 (hw _ hmem)).2
      · rw [List.getD_eq_getElem?_getD, List.getElem?_eq_none (by omega)]; decide

/-! ### The walk -/
theorem walk (a0 : Option Addr) (len0 cap0 : Nat) (z0 : List Int) (a1 : Int) (a2 : Int) (w : World) (w0 : IsRow .i64 w a0 len0 cap0 z0) (w1 : (Lit.int .i64 a1).wf = true) (w2 : (Lit.int .i64 a2).wf = true) :
    Calls Try.prog 4 #[.slice a0 len0 cap0, .int .i64 a1, .int .i64 a2] w fun e w' => e = .returned (.bool true) ∧ Below w.heap.size w w' := by
  obtain ⟨hrow, hmax, hnil, hup⟩ := row_of w0
  have b1 := Go.bounds_i64 w1
  have b2 := Go.bounds_i64 w2
  generalize z0.take len0 = zs at hrow hup
  clear w0 w1 w2
  unfold maxLen at hmax
  by_cases hl : len0 ≤ 131072
  · by_cases hs : 0 < a1
    · by_cases hr : 1 ≤ a2
      · cases hnn : nn zs with
        | true => exact fresh_main a0 len0 cap0 zs a1 a2 w hl hs b1.2 hr b2.2 hrow hnil hnn (fun i => ⟨nn_get hnn i, hup i⟩)
        | false =>
          have hby : bytes2 len0 0 = true := decide_eq_true (by omega)
          go_enter Try.func4, Try.ntmps4
          go_wp2_with (first | (go_at_call 12; refine (same (bytes1_any a0 len0 cap0 a1 a2 _ (by unfold maxLen; omega))).mono ?_; rintro e w' ⟨rfl, rfl⟩) | (go_at_call 6; refine (same (nonneg_any a0 len0 cap0 zs _ (by omega) hrow)).mono ?_; rintro e w' ⟨rfl, rfl⟩))
          go_ret
          exact ⟨rfl, Below.refl _ _⟩
      · have hby : bytes2 len0 0 = true := decide_eq_true (by omega)
        go_enter Try.func4, Try.ntmps4
        go_wp2_with (go_at_call 12; refine (same (bytes1_any a0 len0 cap0 a1 a2 _ (by unfold maxLen; omega))).mono ?_; rintro e w' ⟨rfl, rfl⟩)
        go_ret
        exact ⟨rfl, Below.refl _ _⟩
    · have hby : bytes2 len0 0 = true := decide_eq_true (by omega)
      go_enter Try.func4, Try.ntmps4
      go_wp2_with (go_at_call 12; refine (same (bytes1_any a0 len0 cap0 a1 a2 _ (by unfold maxLen; omega))).mono ?_; rintro e w' ⟨rfl, rfl⟩)
      go_ret
      exact ⟨rfl, Below.refl _ _⟩
  · cases hby : bytes2 len0 0 with
    | false =>
      go_enter Try.func4, Try.ntmps4
      go_wp2_with (go_at_call 12; refine (same (bytes1_any a0 len0 cap0 a1 a2 _ (by unfold maxLen; omega))).mono ?_; rintro e w' ⟨rfl, rfl⟩)
      go_ret
      exact ⟨rfl, Below.refl _ _⟩
    | true =>
      go_enter Try.func4, Try.ntmps4
      go_wp2_with (go_at_call 12; refine (same (bytes1_any a0 len0 cap0 a1 a2 _ (by unfold maxLen; omega))).mono ?_; rintro e w' ⟨rfl, rfl⟩)
      go_ret
      exact ⟨rfl, Below.refl _ _⟩

/-! ### The row -/
set_option maxRecDepth 100000 in
theorem lifted (os : Os) (started : os.Started) (H : Type) (enc : TypeId × Value → H) :
    ReturnsInHanded {} Try.checked os 4 .any (Rows.fnCountersFreshMapSpec.pre6 enc Try.prog Try.f4 Rows.fnCountersFreshMapRow.domain false) (Rows.fnCountersFreshMapSpec.post enc Try.prog Try.f4 false true false false) := by
  refine returnsInHanded_of_change (C := Try.checked) own started (by kernel_rfl) Try.func4
    (ChangeSpec.witness6 (enc := enc) (C := Try.checked) false ⟨#[], #[.slice none 0 0, .int .i64 0, .int .i64 0], []⟩ 8 (by kernel_rfl) (by kernel_rfl) (by kernel_rfl) (by kernel_rfl)) ?_
  intro W base args ds gs before hval0 hW hcnd _
  have hval : ∀ (j : Nat) t v, Try.f4.params[j]? = some t → args[j]? = some v → Value.okWide Try.prog W .any base t v := hval0
  have hW' := hW
  obtain ⟨p, q, hA0, hV, rfl, hfz, hnd⟩ := hW
  have hA : DataW.TrodAll enc Try.prog W 0 (fun _ => true) true Try.f4.params.toList args.toList ds p := hA0
  rw [Try.params4] at hA hval
  obtain ⟨v0, vs0, d0, ds0, p0, q0, hargs, rfl, rfl, h0, r0⟩ := trodAll_cons hA
  obtain ⟨v1, vs1, d1, ds1, p1, q1, rfl, rfl, rfl, h1, r1⟩ := trodAll_cons r0
  obtain ⟨v2, vs2, d2, ds2, p2, q2, rfl, rfl, rfl, h2, r2⟩ := trodAll_cons r1
  obtain ⟨rfl, rfl, rfl⟩ := trodAll_nil r2
  obtain rfl : args = #[v0, v1, v2] := by cases args; simp_all
  obtain ⟨rfl, rfl⟩ := trodVars_none hV
  obtain ⟨a0, len0, cap0, rfl⟩ := okWide_slice Try.underlying22 (hval 0 22 v0 rfl rfl)
  have k0 := h0
  have lt0 : ∀ x ∈ p0, x.block < W.heap.size := by obtain ⟨m, hm⟩ := k0; exact DataW.trod_lt m _ _ _ hm
  obtain ⟨z0, w0⟩ : ∃ zs, IsRow .i64 W a0 len0 cap0 zs := by
    obtain ⟨fuel, hf⟩ := h0
    rcases open_ints Try.underlying22 Try.underlying2 (by kernel_rfl) hf with ⟨hcs, _⟩ | ⟨x, l, c, zs, hcs, _, hl, hm, hz, _, hcell, hwz⟩
    · simp [Value.cells] at hcs
      obtain ⟨rfl, rfl, rfl⟩ := hcs
      exact ⟨[], .inl ⟨rfl, rfl, rfl, rfl⟩⟩
    · simp [Value.cells] at hcs
      obtain ⟨rfl, rfl, rfl⟩ := hcs
      exact ⟨zs, .inr ⟨_, rfl, hl, hm, by simpa using hz, hcell, hwz⟩⟩
  obtain ⟨a1, rfl, rfl, rfl, w1⟩ := open_int Try.underlying2 (hval 1 2 v1 rfl rfl) h1
  obtain ⟨a2, rfl, rfl, rfl, w2⟩ := open_int Try.underlying3 (hval 2 3 v2 rfl rfl) h2
  clear hA0 hval0
  refine (walk a0 len0 cap0 z0 a1 a2 W w0 w1 w2).mono fun e W' ⟨he, bel⟩ => ?_
  subst he
  exact ⟨_, rfl, _, _, _, [], _, [], hW', trodAll_mk1 (shut_bool Try.underlying4 _), (trodAll_cons_mk (Below.trod laidOut (by kernel_rfl) (of_decide_eq_true (by kernel_rfl)) k0 bel lt0) (trodAll_cons_mk (shut_int Try.underlying2 w1) (trodAll_cons_mk (shut_int Try.underlying3 w2) trodAll_mk0))), rfl, bel.frame _, fun h => by cases h⟩

theorem over : Rows.fnCountersFreshMapRow.holds Try.pinned (OpenSpec.ofChange Rows.fnCountersFreshMapSpec) :=
  OpenClaim.holds_of_wide 4 Try.f4 rfl rfl rfl rfl rfl rfl rfl ⟨rfl, rfl, rfl, rfl, rfl⟩ rfl rfl rfl rfl rfl (by kernel_rfl) Try.func4 (by kernel_rfl)
    (of_decide_eq_true (by kernel_rfl)) (by unfold Func.isWrapper; first | (rw [if_pos (by decide +kernel)]; kernel_rfl) | (rw [if_neg (by decide +kernel)]; exact ⟨rfl, rfl⟩))
    (fun os started H enc _ => lifted os started H enc)

/-- The statement. -/
theorem proved : Rows.FnCountersFreshMapSaid := over
end Go.Proofs.Qxb6632538a.fnCountersFreshMap
