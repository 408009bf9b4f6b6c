/- The statement of 'CountersSplitAdditive': the walk put into the row. -/
import Derived.Test.Qxb6632538aRows
import Derived.Test.Qxb6632538aSplitSS
import Derived.Test.Qxb6632538aSplitSN
import Derived.Test.Qxb6632538aSplitNS
import Derived.Test.Qxb6632538aSplitNN
import Derived.WalkKit
import Derived.ProofKit
import Derived.OpenShut
import Derived.ShutString
import Derived.ChangeOld
import Derived.Below
namespace Go.Proofs.Qxb6632538a.fnCountersSplitAdditive
open Go.ChangeShapes Go.WideShapes Go.ChangeAt Go.RowKit
open Go.ChangeMaps (open_string shut_string)
set_option linter.unusedVariables false

theorem own : ownKnob Try.prog.godebug = none := by kernel_rfl
theorem laidOut : laidOutB Try.prog = true := by kernel_rfl

/-- WHAT THE WALK IS TOLD OF A SLICE OF INTEGERS THAT CAME IN: it is nil; or it leads to a row of 'cap' cells, the numbers 'zs' (the first 'len' are its elements, the rest its spare room), each fitting its kind. -/
def IsRow (k : IntKind) (w : World) (a : Option Addr) (len cap : Nat) (zs : List Int) : Prop :=
  (a = none ∧ len = 0 ∧ cap = 0 ∧ zs = []) ∨
  ∃ x, a = some x ∧ len ≤ cap ∧ cap ≤ maxLen ∧ zs.length = cap ∧ (∀ i, i < zs.length → w.cell? (x.add i) = some (.int k (zs.getD i 0))) ∧ ∀ n ∈ zs, (Lit.int k n).wf = true

/-- What the shell tells of a slice, in the walk's own words. -/
theorem row_of {w : World} {a : Option Addr} {len cap : Nat} {zs : List Int} (h : IsRow .i64 w a len cap zs) :
    Row w a len (zs.take len) ∧ len ≤ maxLen ∧ (a = none → len = 0 ∧ cap = 0) ∧ ∀ i, (zs.take len).getD i 0 ≤ 9223372036854775807 := by
  rcases h with ⟨rfl, rfl, rfl, rfl⟩ | ⟨x, rfl, hl, hm, hz, hc, hw⟩
  · exact ⟨⟨rfl, fun h => absurd h (by omega)⟩, Nat.zero_le _, fun _ => ⟨rfl, rfl⟩, fun i => by simp⟩
  · refine ⟨⟨by simp [hz, hl], fun h0 => ?_⟩, Nat.le_trans hl hm, (fun e => by cases e), fun i => ?_⟩
    · obtain ⟨b, off, spot⟩ := x
      have hspot : spot = none := by simpa [Addr.add] using World.cell?_spot (hc 0 (by omega))
      subst hspot
      refine ⟨b, off, rfl, fun i hi => ?_⟩
      have := hc i (by omega)
      rw [add_plain] at this
      rw [this]
      simp [hi]
    · by_cases hi : i < (zs.take len).length
      · have hmem : (zs.take len).getD i 0 ∈ zs := by
          rw [show (zs.take len).getD i 0 = (zs.take len)[i] from by rw [List.getD_eq_getElem?_getD, List.getElem?_eq_getElem hi]; rfl]
          exact List.mem_of_mem_take (List.getElem_mem hi)
        exact (Go.bounds_i64 (hw _ hmem)).2
      · rw [List.getD_eq_getElem?_getD, List.getElem?_eq_none (by omega)]; decide

theorem getD_join {za zb : List Int} (ha : ∀ i, 0 ≤ za.getD i 0 ∧ za.getD i 0 ≤ 9223372036854775807) (hb : ∀ i, 0 ≤ zb.getD i 0 ∧ zb.getD i 0 ≤ 9223372036854775807) (i : Nat) : 0 ≤ (za ++ zb).getD i 0 ∧ (za ++ zb).getD i 0 ≤ 9223372036854775807 := by
  rw [List.getD_eq_getElem?_getD, List.getElem?_append]
  split
  · rw [← List.getD_eq_getElem?_getD]; exact ha i
  · rw [← List.getD_eq_getElem?_getD]; exact hb _

/-! ### The walk -/
theorem walk (a0 : Option Addr) (len0 cap0 : Nat) (z0 : List Int) (a1 : Option Addr) (len1 cap1 : Nat) (z1 : List Int) (a2 : Int) (a3 : Int) (w : World) (w0 : IsRow .i64 w a0 len0 cap0 z0) (w1 : IsRow .i64 w a1 len1 cap1 z1) (w2 : (Lit.int .i64 a2).wf = true) (w3 : (Lit.int .i64 a3).wf = true) :
    Calls Try.prog 3 #[.slice a0 len0 cap0, .slice a1 len1 cap1, .int .i64 a2, .int .i64 a3] w fun e w' => e = .returned (.bool true) ∧ Below w.heap.size w w' := by
  obtain ⟨hra, hma, hna, hua⟩ := row_of w0
  obtain ⟨hrb, hmb, hnb, hub⟩ := row_of w1
  have b2 := Go.bounds_i64 w2
  have b3 := Go.bounds_i64 w3
  generalize z0.take len0 = za at hra hua
  generalize z1.take len1 = zb at hrb hub
  clear w0 w1 w2 w3
  unfold maxLen at hma hmb
  cases hbo : bytes2 len0 len1 with
  | false =>
    go_enter Try.func3, Try.ntmps3
    go_wp2_with (first | (go_at_call 5; refine (same (bytes2_any a0 a1 len0 cap0 len1 cap1 a2 a3 _ (by unfold maxLen; omega) (by unfold maxLen; omega))).mono ?_; rintro e w' ⟨rfl, rfl⟩) | (go_at_call_of 6 (Value.slice a0 len0 cap0); refine (same (nonneg_any a0 len0 cap0 za _ (by omega) hra)).mono ?_; rintro e w' ⟨rfl, rfl⟩) | (go_at_call_of 6 (Value.slice a1 len1 cap1); refine (same (nonneg_any a1 len1 cap1 zb _ (by omega) hrb)).mono ?_; rintro e w' ⟨rfl, rfl⟩))
    go_ret
    exact ⟨rfl, Below.refl _ _⟩
  | true =>
    by_cases hl0 : len0 ≤ 65536
    · by_cases hl1 : len1 ≤ 65536
      · by_cases hs : 0 < a2
        · by_cases hr : 1 ≤ a3
          · cases hnn : nn za with
            | false =>
              go_enter Try.func3, Try.ntmps3
              go_wp2_with (first | (go_at_call 5; refine (same (bytes2_any a0 a1 len0 cap0 len1 cap1 a2 a3 _ (by unfold maxLen; omega) (by unfold maxLen; omega))).mono ?_; rintro e w' ⟨rfl, rfl⟩) | (go_at_call_of 6 (Value.slice a0 len0 cap0); refine (same (nonneg_any a0 len0 cap0 za _ (by omega) hra)).mono ?_; rintro e w' ⟨rfl, rfl⟩) | (go_at_call_of 6 (Value.slice a1 len1 cap1); refine (same (nonneg_any a1 len1 cap1 zb _ (by omega) hrb)).mono ?_; rintro e w' ⟨rfl, rfl⟩))
              go_ret
              exact ⟨rfl, Below.refl _ _⟩
            | true =>
              cases hnn' : nn zb with
              | false =>
                go_enter Try.func3, Try.ntmps3
                go_wp2_with (first | (go_at_call 5; refine (same (bytes2_any a0 a1 len0 cap0 len1 cap1 a2 a3 _ (by unfold maxLen; omega) (by unfold maxLen; omega))).mono ?_; rintro e w' ⟨rfl, rfl⟩) | (go_at_call_of 6 (Value.slice a0 len0 cap0); refine (same (nonneg_any a0 len0 cap0 za _ (by omega) hra)).mono ?_; rintro e w' ⟨rfl, rfl⟩) | (go_at_call_of 6 (Value.slice a1 len1 cap1); refine (same (nonneg_any a1 len1 cap1 zb _ (by omega) hrb)).mono ?_; rintro e w' ⟨rfl, rfl⟩))
                go_ret
                exact ⟨rfl, Below.refl _ _⟩
              | true =>
                have hba : ∀ i, 0 ≤ za.getD i 0 ∧ za.getD i 0 ≤ 9223372036854775807 := fun i => ⟨nn_get hnn i, hua i⟩
                have hbb : ∀ i, 0 ≤ zb.getD i 0 ∧ zb.getD i 0 ≤ 9223372036854775807 := fun i => ⟨nn_get hnn' i, hub i⟩
                cases a0 with
                | none =>
                  obtain ⟨rfl, rfl⟩ := hna rfl
                  cases a1 with
                  | none =>
                    obtain ⟨rfl, rfl⟩ := hnb rfl
                    exact split_nn za zb a2 a3 w hs b2.2 hr b3.2 hra hrb hnn hnn' hba hbb (getD_join hba hbb)
                  | some y => exact split_ns y len1 cap1 za zb a2 a3 w hl1 hs b2.2 hr b3.2 hra hrb hnn hnn' hba hbb (getD_join hba hbb)
                | some x =>
                  cases a1 with
                  | none =>
                    obtain ⟨rfl, rfl⟩ := hnb rfl
                    exact split_sn x len0 cap0 za zb a2 a3 w hl0 hs b2.2 hr b3.2 hra hrb hnn hnn' hba hbb (getD_join hba hbb)
                  | some y => exact split_ss x len0 cap0 y len1 cap1 za zb a2 a3 w hl0 hl1 hs b2.2 hr b3.2 hra hrb hnn hnn' hba hbb (getD_join hba hbb)
          · go_enter Try.func3, Try.ntmps3
            go_wp2_with (first | (go_at_call 5; refine (same (bytes2_any a0 a1 len0 cap0 len1 cap1 a2 a3 _ (by unfold maxLen; omega) (by unfold maxLen; omega))).mono ?_; rintro e w' ⟨rfl, rfl⟩) | (go_at_call_of 6 (Value.slice a0 len0 cap0); refine (same (nonneg_any a0 len0 cap0 za _ (by omega) hra)).mono ?_; rintro e w' ⟨rfl, rfl⟩) | (go_at_call_of 6 (Value.slice a1 len1 cap1); refine (same (nonneg_any a1 len1 cap1 zb _ (by omega) hrb)).mono ?_; rintro e w' ⟨rfl, rfl⟩))
            go_ret
            exact ⟨rfl, Below.refl _ _⟩
        · go_enter Try.func3, Try.ntmps3
          go_wp2_with (first | (go_at_call 5; refine (same (bytes2_any a0 a1 len0 cap0 len1 cap1 a2 a3 _ (by unfold maxLen; omega) (by unfold maxLen; omega))).mono ?_; rintro e w' ⟨rfl, rfl⟩) | (go_at_call_of 6 (Value.slice a0 len0 cap0); refine (same (nonneg_any a0 len0 cap0 za _ (by omega) hra)).mono ?_; rintro e w' ⟨rfl, rfl⟩) | (go_at_call_of 6 (Value.slice a1 len1 cap1); refine (same (nonneg_any a1 len1 cap1 zb _ (by omega) hrb)).mono ?_; rintro e w' ⟨rfl, rfl⟩))
          go_ret
          exact ⟨rfl, Below.refl _ _⟩
      · go_enter Try.func3, Try.ntmps3
        go_wp2_with (first | (go_at_call 5; refine (same (bytes2_any a0 a1 len0 cap0 len1 cap1 a2 a3 _ (by unfold maxLen; omega) (by unfold maxLen; omega))).mono ?_; rintro e w' ⟨rfl, rfl⟩) | (go_at_call_of 6 (Value.slice a0 len0 cap0); refine (same (nonneg_any a0 len0 cap0 za _ (by omega) hra)).mono ?_; rintro e w' ⟨rfl, rfl⟩) | (go_at_call_of 6 (Value.slice a1 len1 cap1); refine (same (nonneg_any a1 len1 cap1 zb _ (by omega) hrb)).mono ?_; rintro e w' ⟨rfl, rfl⟩))
        go_ret
        exact ⟨rfl, Below.refl _ _⟩
    · go_enter Try.func3, Try.ntmps3
      go_wp2_with (first | (go_at_call 5; refine (same (bytes2_any a0 a1 len0 cap0 len1 cap1 a2 a3 _ (by unfold maxLen; omega) (by unfold maxLen; omega))).mono ?_; rintro e w' ⟨rfl, rfl⟩) | (go_at_call_of 6 (Value.slice a0 len0 cap0); refine (same (nonneg_any a0 len0 cap0 za _ (by omega) hra)).mono ?_; rintro e w' ⟨rfl, rfl⟩) | (go_at_call_of 6 (Value.slice a1 len1 cap1); refine (same (nonneg_any a1 len1 cap1 zb _ (by omega) hrb)).mono ?_; rintro e w' ⟨rfl, rfl⟩))
      go_ret
      exact ⟨rfl, Below.refl _ _⟩

/-! ### The row -/
set_option maxRecDepth 100000 in
theorem lifted (os : Os) (started : os.Started) (H : Type) (enc : TypeId × Value → H) :
    ReturnsInHanded {} Try.checked os 3 .any (Rows.fnCountersSplitAdditiveSpec.pre6 enc Try.prog Try.f3 Rows.fnCountersSplitAdditiveRow.domain false) (Rows.fnCountersSplitAdditiveSpec.post enc Try.prog Try.f3 false true false false) := by
  refine returnsInHanded_of_change (C := Try.checked) own started (by kernel_rfl) Try.func3
    (ChangeSpec.witness6 (enc := enc) (C := Try.checked) false ⟨#[], #[.slice none 0 0, .slice none 0 0, .int .i64 0, .int .i64 0], []⟩ 8 (by kernel_rfl) (by kernel_rfl) (by kernel_rfl) (by kernel_rfl)) ?_
  intro W base args ds gs before hval0 hW hcnd _
  have hval : ∀ (j : Nat) t v, Try.f3.params[j]? = some t → args[j]? = some v → Value.okWide Try.prog W .any base t v := hval0
  have hW' := hW
  obtain ⟨p, q, hA0, hV, rfl, hfz, hnd⟩ := hW
  have hA : DataW.TrodAll enc Try.prog W 0 (fun _ => true) true Try.f3.params.toList args.toList ds p := hA0
  rw [Try.params3] at hA hval
  obtain ⟨v0, vs0, d0, ds0, p0, q0, hargs, rfl, rfl, h0, r0⟩ := trodAll_cons hA
  obtain ⟨v1, vs1, d1, ds1, p1, q1, rfl, rfl, rfl, h1, r1⟩ := trodAll_cons r0
  obtain ⟨v2, vs2, d2, ds2, p2, q2, rfl, rfl, rfl, h2, r2⟩ := trodAll_cons r1
  obtain ⟨v3, vs3, d3, ds3, p3, q3, rfl, rfl, rfl, h3, r3⟩ := trodAll_cons r2
  obtain ⟨rfl, rfl, rfl⟩ := trodAll_nil r3
  obtain rfl : args = #[v0, v1, v2, v3] := by cases args; simp_all
  obtain ⟨rfl, rfl⟩ := trodVars_none hV
  obtain ⟨a0, len0, cap0, rfl⟩ := okWide_slice Try.underlying22 (hval 0 22 v0 rfl rfl)
  have k0 := h0
  have lt0 : ∀ x ∈ p0, x.block < W.heap.size := by obtain ⟨m, hm⟩ := k0; exact DataW.trod_lt m _ _ _ hm
  obtain ⟨z0, w0⟩ : ∃ zs, IsRow .i64 W a0 len0 cap0 zs := by
    obtain ⟨fuel, hf⟩ := h0
    rcases open_ints Try.underlying22 Try.underlying2 (by kernel_rfl) hf with ⟨hcs, _⟩ | ⟨x, l, c, zs, hcs, _, hl, hm, hz, _, hcell, hwz⟩
    · simp [Value.cells] at hcs
      obtain ⟨rfl, rfl, rfl⟩ := hcs
      exact ⟨[], .inl ⟨rfl, rfl, rfl, rfl⟩⟩
    · simp [Value.cells] at hcs
      obtain ⟨rfl, rfl, rfl⟩ := hcs
      exact ⟨zs, .inr ⟨_, rfl, hl, hm, by simpa using hz, hcell, hwz⟩⟩
  obtain ⟨a1, len1, cap1, rfl⟩ := okWide_slice Try.underlying22 (hval 1 22 v1 rfl rfl)
  have k1 := h1
  have lt1 : ∀ x ∈ p1, x.block < W.heap.size := by obtain ⟨m, hm⟩ := k1; exact DataW.trod_lt m _ _ _ hm
  obtain ⟨z1, w1⟩ : ∃ zs, IsRow .i64 W a1 len1 cap1 zs := by
    obtain ⟨fuel, hf⟩ := h1
    rcases open_ints Try.underlying22 Try.underlying2 (by kernel_rfl) hf with ⟨hcs, _⟩ | ⟨x, l, c, zs, hcs, _, hl, hm, hz, _, hcell, hwz⟩
    · simp [Value.cells] at hcs
      obtain ⟨rfl, rfl, rfl⟩ := hcs
      exact ⟨[], .inl ⟨rfl, rfl, rfl, rfl⟩⟩
    · simp [Value.cells] at hcs
      obtain ⟨rfl, rfl, rfl⟩ := hcs
      exact ⟨zs, .inr ⟨_, rfl, hl, hm, by simpa using hz, hcell, hwz⟩⟩
  obtain ⟨a2, rfl, rfl, rfl, w2⟩ := open_int Try.underlying2 (hval 2 2 v2 rfl rfl) h2
  obtain ⟨a3, rfl, rfl, rfl, w3⟩ := open_int Try.underlying3 (hval 3 3 v3 rfl rfl) h3
  clear hA0 hval0
  refine (walk a0 len0 cap0 z0 a1 len1 cap1 z1 a2 a3 W w0 w1 w2 w3).mono fun e W' ⟨he, bel⟩ => ?_
  subst he
  exact ⟨_, rfl, _, _, _, [], _, [], hW', trodAll_mk1 (shut_bool Try.underlying4 _), (trodAll_cons_mk (Below.trod laidOut (by kernel_rfl) (of_decide_eq_true (by kernel_rfl)) k0 bel lt0) (trodAll_cons_mk (Below.trod laidOut (by kernel_rfl) (of_decide_eq_true (by kernel_rfl)) k1 bel lt1) (trodAll_cons_mk (shut_int Try.underlying2 w2) (trodAll_cons_mk (shut_int Try.underlying3 w3) trodAll_mk0)))), rfl, bel.frame _, fun h => by cases h⟩

theorem over : Rows.fnCountersSplitAdditiveRow.holds Try.pinned (OpenSpec.ofChange Rows.fnCountersSplitAdditiveSpec) :=
  OpenClaim.holds_of_wide 3 Try.f3 rfl rfl rfl rfl rfl rfl rfl ⟨rfl, rfl, rfl, rfl, rfl⟩ rfl rfl rfl rfl rfl (by kernel_rfl) Try.func3 (by kernel_rfl)
    (of_decide_eq_true (by kernel_rfl)) (by unfold Func.isWrapper; first | (rw [if_pos (by decide +kernel)]; kernel_rfl) | (rw [if_neg (by decide +kernel)]; exact ⟨rfl, rfl⟩))
    (fun os started H enc _ => lifted os started H enc)

/-- The statement. -/
theorem proved : Rows.FnCountersSplitAdditiveSaid := over
end Go.Proofs.Qxb6632538a.fnCountersSplitAdditive
