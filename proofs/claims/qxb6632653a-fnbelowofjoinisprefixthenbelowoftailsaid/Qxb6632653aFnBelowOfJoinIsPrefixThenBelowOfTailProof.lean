/- The statement of 'BelowOfJoinIsPrefixThenBelowOfTail': the walk put into the row. -/
import Derived.Test.Qxb6632653aRows
import Derived.Test.Qxb6632653aJoin
import Derived.WalkKit
import Derived.ProofKit
import Derived.OpenShut
import Derived.ShutString
import Derived.ChangeOld
import Derived.Below
namespace Go.Proofs.Qxb6632653a.fnBelowOfJoinIsPrefixThenBelowOfTail
open Go.ChangeShapes Go.WideShapes Go.ChangeAt Go.RowKit
open Go.ChangeMaps (open_string shut_string)
set_option linter.unusedVariables false

theorem own : ownKnob Try.prog.godebug = none := by kernel_rfl
theorem laidOut : laidOutB Try.prog = true := by kernel_rfl

/-- WHAT THE WALK IS TOLD OF A SLICE OF INTEGERS THAT CAME IN: it is nil; or it leads to a row of 'cap' cells, the numbers 'zs' (the first 'len' are its elements, the rest its spare room), each fitting its kind. -/
def IsRow (k : IntKind) (w : World) (a : Option Addr) (len cap : Nat) (zs : List Int) : Prop :=
  (a = none ∧ len = 0 ∧ cap = 0 ∧ zs = []) ∨
  ∃ x, a = some x ∧ len ≤ cap ∧ cap ≤ maxLen ∧ zs.length = cap ∧ (∀ i, i < zs.length → w.cell? (x.add i) = some (.int k (zs.getD i 0))) ∧ ∀ n ∈ zs, (Lit.int k n).wf = true

/-- What the shell tells of a slice, in the walk's own words. -/
theorem row_of {w : World} {a : Option Addr} {len cap : Nat} {zs : List Int} (h : IsRow .i32 w a len cap zs) :
    Row w a len (zs.take len) ∧ len ≤ maxLen ∧ (a = none → len = 0 ∧ cap = 0) := by
  rcases h with ⟨rfl, rfl, rfl, rfl⟩ | ⟨x, rfl, hl, hm, hz, hc, _⟩
  · exact ⟨⟨rfl, fun h => absurd h (by omega)⟩, Nat.zero_le _, fun _ => ⟨rfl, rfl⟩⟩
  · refine ⟨⟨by simp [hz, hl], fun h0 => ?_⟩, Nat.le_trans hl hm, (fun e => by cases e)⟩
    obtain ⟨b, off, spot⟩ := x
    have hspot : spot = none := by simpa [Addr.add] using World.cell?_spot (hc 0 (by omega))
    subst hspot
    refine ⟨b, off, rfl, fun i hi => ?_⟩
    have := hc i (by omega)
    rw [add_plain] at this
    rw [this]
    simp [hi]

/-- An empty tail: the law returns at once. -/
theorem join_none (a0 : Option Addr) (len0 cap0 : Nat) (a1 : Option Addr) (cap1 : Nat) (zs zt : List Int) (w : World) (hl0 : len0 ≤ 65536) (hrs : Row w a0 len0 zs) (hrt : Row w a1 0 zt) (hdom : dom zs = true) (hdom' : dom zt = true) :
    Calls Try.prog 4 #[.slice a0 len0 cap0, .slice a1 0 cap1] w fun e w' => e = .returned (.bool true) ∧ Below w.heap.size w w' := by
  have hby : bytes2 len0 0 = true := decide_eq_true (by omega)
  go_enter Try.func4, Try.ntmps4
  go_wp2_with (first | (go_at_call 10; refine (same (bytes2_any a0 a1 len0 cap0 0 cap1 _ (by unfold maxLen; omega) (by unfold maxLen; omega))).mono ?_; rintro e w' ⟨rfl, rfl⟩) | (go_at_call_of 6 a0; refine (same (dom_any a0 len0 cap0 zs _ (by omega) hrs)).mono ?_; rintro e w' ⟨rfl, rfl⟩) | (go_at_call_of 6 a1; refine (same (dom_any a1 0 cap1 zt _ (by omega) hrt)).mono ?_; rintro e w' ⟨rfl, rfl⟩))
  go_ret
  exact ⟨rfl, Below.refl _ _⟩

/-! ### The walk -/
theorem walk (a0 : Option Addr) (len0 cap0 : Nat) (z0 : List Int) (a1 : Option Addr) (len1 cap1 : Nat) (z1 : List Int) (w : World) (w0 : IsRow .i32 w a0 len0 cap0 z0) (w1 : IsRow .i32 w a1 len1 cap1 z1) :
    Calls Try.prog 4 #[.slice a0 len0 cap0, .slice a1 len1 cap1] w fun e w' => e = .returned (.bool true) ∧ Below w.heap.size w w' := by
  obtain ⟨hrs, hms, hns⟩ := row_of w0
  obtain ⟨hrt, hmt, hnt⟩ := row_of w1
  generalize z0.take len0 = zs at hrs
  generalize z1.take len1 = zt at hrt
  clear w0 w1
  unfold maxLen at hms hmt
  cases hby : bytes2 len0 len1 with
  | false =>
    go_enter Try.func4, Try.ntmps4
    go_wp2_with (first | (go_at_call 10; refine (same (bytes2_any a0 a1 len0 cap0 len1 cap1 _ (by unfold maxLen; omega) (by unfold maxLen; omega))).mono ?_; rintro e w' ⟨rfl, rfl⟩) | (go_at_call_of 6 a0; refine (same (dom_any a0 len0 cap0 zs _ (by omega) hrs)).mono ?_; rintro e w' ⟨rfl, rfl⟩) | (go_at_call_of 6 a1; refine (same (dom_any a1 len1 cap1 zt _ (by omega) hrt)).mono ?_; rintro e w' ⟨rfl, rfl⟩))
    go_ret
    exact ⟨rfl, Below.refl _ _⟩
  | true =>
    by_cases hl0 : len0 ≤ 65536
    · by_cases hl1 : len1 ≤ 65536
      · cases hdom : dom zs with
        | false =>
          go_enter Try.func4, Try.ntmps4
          go_wp2_with (first | (go_at_call 10; refine (same (bytes2_any a0 a1 len0 cap0 len1 cap1 _ (by unfold maxLen; omega) (by unfold maxLen; omega))).mono ?_; rintro e w' ⟨rfl, rfl⟩) | (go_at_call_of 6 a0; refine (same (dom_any a0 len0 cap0 zs _ (by omega) hrs)).mono ?_; rintro e w' ⟨rfl, rfl⟩) | (go_at_call_of 6 a1; refine (same (dom_any a1 len1 cap1 zt _ (by omega) hrt)).mono ?_; rintro e w' ⟨rfl, rfl⟩))
          go_ret
          exact ⟨rfl, Below.refl _ _⟩
        | true =>
          cases hdom' : dom zt with
          | false =>
            go_enter Try.func4, Try.ntmps4
            go_wp2_with (first | (go_at_call 10; refine (same (bytes2_any a0 a1 len0 cap0 len1 cap1 _ (by unfold maxLen; omega) (by unfold maxLen; omega))).mono ?_; rintro e w' ⟨rfl, rfl⟩) | (go_at_call_of 6 a0; refine (same (dom_any a0 len0 cap0 zs _ (by omega) hrs)).mono ?_; rintro e w' ⟨rfl, rfl⟩) | (go_at_call_of 6 a1; refine (same (dom_any a1 len1 cap1 zt _ (by omega) hrt)).mono ?_; rintro e w' ⟨rfl, rfl⟩))
            go_ret
            exact ⟨rfl, Below.refl _ _⟩
          | true =>
            match len1, hl1, hrt with
            | 0, _, hrt => exact join_none a0 len0 cap0 a1 cap1 zs zt w hl0 hrs hrt hdom hdom'
            | j + 1, hl1, hrt =>
              obtain ⟨bt, offt, rfl⟩ := hrt.form (by omega)
              exact join_main a0 len0 cap0 bt offt j cap1 zs zt w hl0 hl1 hrs hrt hdom hdom'
      · go_enter Try.func4, Try.ntmps4
        go_wp2_with (go_at_call 10; refine (same (bytes2_any a0 a1 len0 cap0 len1 cap1 _ (by unfold maxLen; omega) (by unfold maxLen; omega))).mono ?_; rintro e w' ⟨rfl, rfl⟩)
        go_ret
        exact ⟨rfl, Below.refl _ _⟩
    · go_enter Try.func4, Try.ntmps4
      go_wp2_with (go_at_call 10; refine (same (bytes2_any a0 a1 len0 cap0 len1 cap1 _ (by unfold maxLen; omega) (by unfold maxLen; omega))).mono ?_; rintro e w' ⟨rfl, rfl⟩)
      go_ret
      exact ⟨rfl, Below.refl _ _⟩

/-! ### The row -/
set_option maxRecDepth 100000 in
theorem lifted (os : Os) (started : os.Started) (H : Type) (enc : TypeId × Value → H) :
    ReturnsInHanded {} Try.checked os 4 .any (Rows.fnBelowOfJoinIsPrefixThenBelowOfTailSpec.pre6 enc Try.prog Try.f4 Rows.fnBelowOfJoinIsPrefixThenBelowOfTailRow.domain false) (Rows.fnBelowOfJoinIsPrefixThenBelowOfTailSpec.post enc Try.prog Try.f4 false true false false) := by
  refine returnsInHanded_of_change (C := Try.checked) own started (by kernel_rfl) Try.func4
    (ChangeSpec.witness6 (enc := enc) (C := Try.checked) false ⟨#[], #[.slice none 0 0, .slice none 0 0], []⟩ 8 (by kernel_rfl) (by kernel_rfl) (by kernel_rfl) (by kernel_rfl)) ?_
  intro W base args ds gs before hval0 hW hcnd _
  have hval : ∀ (j : Nat) t v, Try.f4.params[j]? = some t → args[j]? = some v → Value.okWide Try.prog W .any base t v := hval0
  have hW' := hW
  obtain ⟨p, q, hA0, hV, rfl, hfz, hnd⟩ := hW
  have hA : DataW.TrodAll enc Try.prog W 0 (fun _ => true) true Try.f4.params.toList args.toList ds p := hA0
  rw [Try.params4] at hA hval
  obtain ⟨v0, vs0, d0, ds0, p0, q0, hargs, rfl, rfl, h0, r0⟩ := trodAll_cons hA
  obtain ⟨v1, vs1, d1, ds1, p1, q1, rfl, rfl, rfl, h1, r1⟩ := trodAll_cons r0
  obtain ⟨rfl, rfl, rfl⟩ := trodAll_nil r1
  obtain rfl : args = #[v0, v1] := by cases args; simp_all
  obtain ⟨rfl, rfl⟩ := trodVars_none hV
  obtain ⟨a0, len0, cap0, rfl⟩ := okWide_slice Try.underlying22 (hval 0 22 v0 rfl rfl)
  have k0 := h0
  have lt0 : ∀ x ∈ p0, x.block < W.heap.size := by obtain ⟨m, hm⟩ := k0; exact DataW.trod_lt m _ _ _ hm
  obtain ⟨z0, w0⟩ : ∃ zs, IsRow .i32 W a0 len0 cap0 zs := by
    obtain ⟨fuel, hf⟩ := h0
    rcases open_ints Try.underlying22 Try.underlying21 (by kernel_rfl) hf with ⟨hcs, _⟩ | ⟨x, l, c, zs, hcs, _, hl, hm, hz, _, hcell, hwz⟩
    · simp [Value.cells] at hcs
      obtain ⟨rfl, rfl, rfl⟩ := hcs
      exact ⟨[], .inl ⟨rfl, rfl, rfl, rfl⟩⟩
    · simp [Value.cells] at hcs
      obtain ⟨rfl, rfl, rfl⟩ := hcs
      exact ⟨zs, .inr ⟨_, rfl, hl, hm, by simpa using hz, hcell, hwz⟩⟩
  obtain ⟨a1, len1, cap1, rfl⟩ := okWide_slice Try.underlying22 (hval 1 22 v1 rfl rfl)
  have k1 := h1
  have lt1 : ∀ x ∈ p1, x.block < W.heap.size := by obtain ⟨m, hm⟩ := k1; exact DataW.trod_lt m _ _ _ hm
  obtain ⟨z1, w1⟩ : ∃ zs, IsRow .i32 W a1 len1 cap1 zs := by
    obtain ⟨fuel, hf⟩ := h1
    rcases open_ints Try.underlying22 Try.underlying21 (by kernel_rfl) hf with ⟨hcs, _⟩ | ⟨x, l, c, zs, hcs, _, hl, hm, hz, _, hcell, hwz⟩
    · simp [Value.cells] at hcs
      obtain ⟨rfl, rfl, rfl⟩ := hcs
      exact ⟨[], .inl ⟨rfl, rfl, rfl, rfl⟩⟩
    · simp [Value.cells] at hcs
      obtain ⟨rfl, rfl, rfl⟩ := hcs
      exact ⟨zs, .inr ⟨_, rfl, hl, hm, by simpa using hz, hcell, hwz⟩⟩
  clear hA0 hval0
  refine (walk a0 len0 cap0 z0 a1 len1 cap1 z1 W w0 w1).mono fun e W' ⟨he, bel⟩ => ?_
  subst he
  exact ⟨_, rfl, _, _, _, [], _, [], hW', trodAll_mk1 (shut_bool Try.underlying4 _), (trodAll_cons_mk (Below.trod laidOut (by kernel_rfl) (of_decide_eq_true (by kernel_rfl)) k0 bel lt0) (trodAll_cons_mk (Below.trod laidOut (by kernel_rfl) (of_decide_eq_true (by kernel_rfl)) k1 bel lt1) trodAll_mk0)), rfl, bel.frame _, fun h => by cases h⟩

theorem over : Rows.fnBelowOfJoinIsPrefixThenBelowOfTailRow.holds Try.pinned (OpenSpec.ofChange Rows.fnBelowOfJoinIsPrefixThenBelowOfTailSpec) :=
  OpenClaim.holds_of_wide 4 Try.f4 rfl rfl rfl rfl rfl rfl rfl ⟨rfl, rfl, rfl, rfl, rfl⟩ rfl rfl rfl rfl rfl (by kernel_rfl) Try.func4 (by kernel_rfl)
    (of_decide_eq_true (by kernel_rfl)) (by unfold Func.isWrapper; first | (rw [if_pos (by decide +kernel)]; kernel_rfl) | (rw [if_neg (by decide +kernel)]; exact ⟨rfl, rfl⟩))
    (fun os started H enc _ => lifted os started H enc)

/-- The statement. -/
theorem proved : Rows.FnBelowOfJoinIsPrefixThenBelowOfTailSaid := over
end Go.Proofs.Qxb6632653a.fnBelowOfJoinIsPrefixThenBelowOfTail
