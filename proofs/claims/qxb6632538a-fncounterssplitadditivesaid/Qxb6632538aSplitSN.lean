/- FnCountersSplitAdditive: the main walk, case 'sn' (s: a slice that is not nil, n: nil). -/
import Derived.Test.Qxb6632538aSplit
namespace Go.Proofs.Qxb6632538a
open Go.RowKit Go.Maps Go.Sort

set_option maxRecDepth 100000 in
set_option maxHeartbeats 4000000 in
theorem split_sn (x : Addr) (n c : Nat) (za zb : List Int) (s r : Int) (w : World) (hn : n ≤ 65536) (hs : 0 < s) (hs' : s ≤ 9223372036854775807) (hr : 1 ≤ r) (hr' : r ≤ 9223372036854775807)
    (ha : Row w (some x) n za) (hb : Row w none 0 zb) (hnn : nn za = true) (hnn' : nn zb = true)
    (hba : ∀ i, 0 ≤ za.getD i 0 ∧ za.getD i 0 ≤ 9223372036854775807) (hbb : ∀ i, 0 ≤ zb.getD i 0 ∧ zb.getD i 0 ≤ 9223372036854775807) (hbab : ∀ i, 0 ≤ (za ++ zb).getD i 0 ∧ (za ++ zb).getD i 0 ≤ 9223372036854775807) :
    Calls Try.prog 3 #[.slice (some x) n c, .slice none 0 0, .int .i64 s, .int .i64 r] w fun e w' => e = .returned (.bool true) ∧ Below w.heap.size w w' := by
  have qT : ∀ (w : World) (a : Option Addr) (n c : Nat), (binOp .neq 22 (.slice a n c) (.slice none 0 0)).run Try.prog w = .ok (.bool (!a.isNone)) w := fun w a n c => run_neq_slice_nil_any w 22 2 a n c 0 0 Try.underlying22
  have HBA : Hid (∀ i, 0 ≤ za.getD i 0 ∧ za.getD i 0 ≤ 9223372036854775807) := hba
  have HBB : Hid (∀ i, 0 ≤ zb.getD i 0 ∧ zb.getD i 0 ≤ 9223372036854775807) := hbb
  have HBAB : Hid (∀ i, 0 ≤ (za ++ zb).getD i 0 ∧ (za ++ zb).getD i 0 ≤ 9223372036854775807) := hbab
  clear hba hbb hbab
  have hrw : (Lit.int .i64 r).wf = true := wf_i64 (by omega) hr'
  have hby : bytes2 n 0 = true := decide_eq_true (by omega)
  have HLA : Hid (za.length = n) := ha.len
  have HLB : Hid (zb.length = 0) := hb.len
  go_enter Try.func3, Try.ntmps3
  go_wp2_with (first | (go_at_call 5; refine (same (bytes2_any (some x) none n c 0 0 s r _ (by unfold maxLen; omega) (by unfold maxLen; omega))).mono ?_; rintro e w' ⟨rfl, rfl⟩) | (go_at_call_of 6 (Value.slice (some x) n c); refine (same (nonneg_any (some x) n c za _ (by omega) ha)).mono ?_; rintro e w' ⟨rfl, rfl⟩) | (go_at_call_of 6 (Value.slice none 0 0); refine (same (nonneg_any none 0 0 zb _ (by omega) hb)).mono ?_; rintro e w' ⟨rfl, rfl⟩) | (with_reducible show wpList _ _ _ (⟨_, .makeSlice 22 (.tmp 50) (.tmp 50), _, _, _, _⟩ :: _) _ _; refine wpList_make_row rfl _ _ rfl n _ _ _ _ rfl rfl (by omega) (by omega) (by omega) ?_; intro w1 hz1 hb1) | (with_reducible show wpList _ _ _ (⟨_, .call { callee := .builtin .copy, args := #[.tmp 52, .tmp 53], argTypes := _ }, _, _, _, _⟩ :: _) _ _; refine wpList_copy_row rfl _ _ rfl w.heap.size n (some x) c rfl rfl za hz1 (ha.later hb1) ?_; intro w2 hra hb2; have hbw2 := hb1.trans hb2; clear hz1 hb1 hb2) | (with_reducible show wpList _ _ _ (⟨_, .makeSlice 22 (.const (.int .i64 0)) (.tmp 69), _, _, _, _⟩ :: _) _ _; refine wpList_make_gath rfl _ _ rfl (n) _ _ _ rfl rfl (by omega) (by omega) ?_; intro w5 hG hb5))
  have hbW : Below w.heap.size w w2 := hbw2
  have hRa : Row w2 _ n za := hra
  have hRb : Row w2 _ 0 zb := (hb.later hbw2)
  clear hra
  clear hbw2
  go_loopw [11, 12] (fun v i wr => ∃ k : Nat, k ≤ n ∧ i = .int .i64 k ∧ v = .slice (some ⟨w2.heap.size, 0, none⟩) k (n) ∧ Gath wr w2.heap.size k (n) (za.take k) ∧ Below w2.heap.size w2 wr) (fun _ i _ => n - (intOf i).toNat)
  case atStart => exact ⟨0, Nat.zero_le _, rfl, rfl, hG, hb5⟩
  case round =>
    clear hG hb5
    obtain ⟨k, hk, rfl, rfl, hG, hb5⟩ := hrel
    by_cases hlt : k < n
    · obtain ⟨z, HZ, hcell⟩ := (hRa.later hb5).spot0 hlt
      go_wp2_with (at_builtin; refine wpList_gath rfl _ _ rfl w2.heap.size k (n) (za.take k) z rfl rfl hG (by omega) ?_; intro w6 hG6 hb6)
      have hG6' : Gath w6 w2.heap.size (k + 1) (n) (za.take (k + 1)) := by rw [take_snoc za k (by rw [HLA.out]; exact hlt), HZ.out]; exact hG6
      have hb6' := hb5.trans hb6
      clear hG6 hb6 hG hb5
      go_wp2
      go_roundw
      case rel => exact ⟨k + 1, by omega, by go_num, rfl, hG6', hb6'⟩
      case measure => simp [intOf]; omega
    · obtain rfl : k = n := by omega
      rw [List.take_of_length_le (by rw [HLA.out]; omega)] at hG
      obtain ⟨wo, hwo⟩ : ∃ wo : World, wo = wr := ⟨_, rfl⟩
      subst hwo
      go_wp2
      go_loopw [11, 13] (fun v i wr => ∃ j : Nat, j ≤ 0 ∧ i = .int .i64 j ∧ v = .slice (some ⟨w2.heap.size, 0, none⟩) (k + j) (k) ∧ Gath wr w2.heap.size (k + j) (k) (za ++ zb.take j) ∧ Below w2.heap.size w2 wr) (fun _ i _ => 0 - (intOf i).toNat)
      case atStart => exact ⟨0, Nat.zero_le _, rfl, rfl, by simpa using hG, hb5⟩
      case round =>
        clear hG hb5
        obtain ⟨j, hj, rfl, rfl, hG, hb5⟩ := hrel
        obtain rfl : j = 0 := by omega
        obtain rfl : zb = [] := List.eq_nil_of_length_eq_zero HLB.out
        have hRab : Row wr _ _ (za ++ []) := hG.row
        have hRa' := hRa.later hb5
        have hRb' := hRb.later hb5
        have hb6 := hbW.trans (hb5.mono hbW.size)
        have HLAB : Hid ((za ++ []).length = _) := hRab.len
        clear hG hb5 hRa hRb hbW
        go_wp2_with fail
        refine (plan_any _ _ _ za s r _ (by omega) hRa').mono ?_
        rintro e w7 ⟨pa, ga, rfl, hPa, hb7⟩
        have hRa7 := hRa'.later hb7
        have hRb7 := hRb'.later hb7
        have hRab7 := hRab.later hb7
        have hbw7 := hb6.trans (hb7.mono hb6.size)
        clear hRa' hRb' hRab hb6 hb7
        go_wp2_with fail
        refine (plan_any _ _ _ [] s r _ (by omega) hRb7).mono ?_
        rintro e w8 ⟨pb, gb, rfl, hPb, hb8⟩
        have hRa8 := hRa7.later hb8
        have hRb8 := hRb7.later hb8
        have hRab8 := hRab7.later hb8
        have hPa8 := hPa.later hb8
        have hbw8 := hbw7.trans (hb8.mono hbw7.size)
        clear hRa7 hRb7 hRab7 hbw7 hb8 hPa
        go_wp2_with fail
        refine (plan_any _ _ _ (za ++ []) s r _ (by omega) hRab8).mono ?_
        rintro e w9 ⟨pab, gab, rfl, hPab, hb9⟩
        have hRa9 := hRa8.later hb9
        have hRb9 := hRb8.later hb9
        have hPa9 := hPa8.later hb9
        have hPb9 := hPb.later hb9
        have hbw9 := hbw8.trans (hb9.mono hbw8.size)
        clear hRa8 hRb8 hRab8 hbw8 hb9 hPa8 hPb
        go_wp2_with fail
        refine (counters_any pa ga _ za s r _ (by omega) HLA.out hPa9 HBA.out hs hs' hrw).mono ?_
        rintro e w10 ⟨Ba, Da, rfl, hBa, hOa, hFa, hb10⟩
        have hRa10 := hRa9.later hb10
        have hRb10 := hRb9.later hb10
        have hPa10 := hPa9.later hb10
        have hPb10 := hPb9.later hb10
        have hPab10 := hPab.later hb10
        have hbw10 := hbw9.trans (hb10.mono hbw9.size)
        clear hRa9 hRb9 hbw9 hb10 hPa9 hPb9 hPab hBa
        go_wp2_with fail
        refine (counters_any pb gb _ [] s r _ (by omega) HLB.out hPb10 HBB.out hs hs' hrw).mono ?_
        rintro e w11 ⟨Bb, Db, rfl, hBb, hOb, hFb, hb11⟩
        have hRa11 := hRa10.later hb11
        have hRb11 := hRb10.later hb11
        have hPa11 := hPa10.later hb11
        have hPab11 := hPab10.later hb11
        have hOa11 := hOa.later hb11
        have hbw11 := hbw10.trans (hb11.mono hbw10.size)
        clear hRa10 hRb10 hbw10 hb11 hPa10 hPb10 hPab10 hBb hOa
        go_wp2_with fail
        refine (counters_any pab gab _ (za ++ []) s r _ (by omega) HLAB.out hPab11 HBAB.out hs hs' hrw).mono ?_
        rintro e w12 ⟨Bab, Dab, rfl, hBab, hOab, hFab, hb12⟩
        have hRa12 := hRa11.later hb12
        have hRb12 := hRb11.later hb12
        have hPa12 := hPa11.later hb12
        have hOa12 := hOa11.later hb12
        have hOb12 := hOb.later hb12
        have hbw12 := hbw11.trans (hb12.mono hbw11.size)
        clear hRa11 hRb11 hbw11 hb12 hPa11 hPab11 hBab hOa11 hOb
        go_wp2_with fail
        refine (same (model_any _ _ _ za s _ (by omega) hRa12 HBA.out hs hs')).mono ?_
        rintro e w' ⟨rfl, rfl⟩
        go_wp2_with fail
        refine (same (model_any _ _ _ [] s _ (by omega) hRb12 HBB.out hs hs')).mono ?_
        rintro e w' ⟨rfl, rfl⟩
        clear hRa12 hRb12
        rw [mt_join] at hFab
        go_wp2_with fail
        have cA : ∀ d os, Calls Try.prog 10 #[.map (some Ba), .int .i64 (mt s za), .int .i64 r] (grow (redrawn w12 d) os) fun e w'' => e = .returned (.bool true) ∧ ∃ p : Regrown, w'' = grow (redrawn w12 p.d) p.os := fun d os => (shape_any Ba 13 Da (mt s za) r _ (hOa12.later (below_regrown w12 d os)) hFa).mono fun e w' ⟨h1, h2⟩ => ⟨h1, ⟨⟨d, os⟩, h2⟩⟩
        have cB : ∀ d os, Calls Try.prog 10 #[.map (some Bb), .int .i64 (mt s []), .int .i64 r] (grow (redrawn w12 d) os) fun e w'' => e = .returned (.bool true) ∧ ∃ p : Regrown, w'' = grow (redrawn w12 p.d) p.os := fun d os => (shape_any Bb 13 Db (mt s []) r _ (hOb12.later (below_regrown w12 d os)) hFb).mono fun e w' ⟨h1, h2⟩ => ⟨h1, ⟨⟨d, os⟩, h2⟩⟩
        have cAB : ∀ d os, Calls Try.prog 10 #[.map (some Bab), .int .i64 (IntKind.i64.wrap (mt s za + mt s [])), .int .i64 r] (grow (redrawn w12 d) os) fun e w'' => e = .returned (.bool true) ∧ ∃ p : Regrown, w'' = grow (redrawn w12 p.d) p.os := fun d os => (shape_any Bab 13 Dab _ r _ (hOab.later (below_regrown w12 d os)) hFab).mono fun e w' ⟨h1, h2⟩ => ⟨h1, ⟨⟨d, os⟩, h2⟩⟩
        have cT : ∀ d os, Calls Try.prog 11 #[.pointer (some ⟨pa, 0, none⟩)] (grow (redrawn w12 d) os) fun e w'' => e = .returned (.int .i64 (mt s za)) ∧ ∃ p : Regrown, w'' = grow (redrawn w12 p.d) p.os := fun d os => Calls.regrown_of (tasks_any pa ga _ za s r _ (by omega) HLA.out (hPa12.later (below_regrown w12 d os)) HBA.out hs hs')
        have lA := fun d os => look_run (hOa12.later (below_regrown w12 d os)) (mt s za) hFa.map
        have lB := fun d os => look_run (hOb12.later (below_regrown w12 d os)) (mt s []) hFb.map
        have lAB := fun d os => look_run (hOab.later (below_regrown w12 d os)) _ hFab.map
        refine wp_region_quiet_below (by kernel_rfl) (by kernel_rfl) ?_
        repeat (quiet_step (first | (go_at_call_of 10 (Value.map (some Ba)); exact cA _ _) | (go_at_call_of 10 (Value.map (some Bb)); exact cB _ _) | (go_at_call_of 10 (Value.map (some Bab)); exact cAB _ _) | (go_at_call 11; exact cT _ _)))
        refine wpQuiet_nil ?_
        intro _ hw'
        obtain ⟨⟨dq, osq⟩, hw''⟩ := hw'
        have hbq := below_regrown w12 dq osq
        rw [← hw''] at hbq
        clear hw'' cA cB cAB cT lA lB lAB
        go_wp2
        go_ret
        exact ⟨rfl, hbw12.trans (hbq.mono hbw12.size)⟩

end Go.Proofs.Qxb6632538a
