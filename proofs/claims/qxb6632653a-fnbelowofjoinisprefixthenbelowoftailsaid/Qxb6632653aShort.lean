/- FnBelowIsShortestExtensionEndingInSeparatorRun: the main walk. -/
import Derived.Test.Qxb6632653aZz
namespace Go.Proofs.Qxb6632653a
open Go.RowKit

/-- 'zzBelow' at a length that is known. -/
theorem zbelow_at (a : Option Addr) (n c L : Nat) (zs : List Int) (w : World) (hl : n ≤ 1048576) (h : Row w a n zs) (hL : Hid ((blw zs).length = L)) :
    Calls Try.prog 8 #[.slice a n c] w fun e w' => ∃ g, e = .returned (.slice (some ⟨g, 0, none⟩) L L) ∧ Row w' (some ⟨g, 0, none⟩) L (blw zs) ∧ Below w.heap.size w w' := by
  have := hL.out
  subst this
  exact zbelow_any a n c zs w hl h

theorem splice_zero (zs : List Int) (n M : Nat) (hz : zs.length = n) (_hn : n ≤ M) : splice (List.replicate M (0 : Int)) 0 zs = zs ++ List.replicate (M - n) 0 := by
  simp [splice, hz]

/-- The row that the law writes by hand. -/
theorem byHand {zs : List Int} {n M : Nat} (hz : zs.length = n) (hM : (blw zs).length = M) (hn : n ≤ M) :
    ((splice (List.replicate M (0 : Int)) 0 zs).set (M - 2) 47).set (M - 1) (-2) = blw zs := by
  rw [splice_zero zs n M hz hn, ← hM]
  exact blw_sets zs _ (by rw [hz, List.length_replicate, hM]; omega)
theorem byHand2 (l : List Int) (M : Nat) (hM : l.length = M) : ((splice (List.replicate (M + 2) (0 : Int)) 0 l).set M 47).set (M + 1) (-2) = l ++ [47, -2] := by
  rw [splice_zero l M (M + 2) hM (by omega), show M + 2 - M = 2 from by omega]
  subst hM
  simp [List.replicate]

set_option maxRecDepth 100000 in
set_option maxHeartbeats 2000000 in
theorem short_nil (a : Option Addr) (c : Nat) (w : World) :
    Calls Try.prog 3 #[.slice a 0 c] w fun e w' => e = .returned (.bool true) ∧ Below w.heap.size w w' := by
  have h : Row w a 0 [] := ⟨rfl, fun e => by omega⟩
  have hdom : dom [] = true := rfl
  have HM : Hid ((blw []).length = 2) := rfl
  have hby : bytes2 0 0 = true := decide_eq_true (by omega)
  have HZ : Hid ([].length = 0) := h.len
  go_enter Try.func3, Try.ntmps3
  go_wp2_with (first | (go_at_call 5; refine (same (bytes1_any a 0 c _ (by unfold maxLen; omega))).mono ?_; rintro e w' ⟨rfl, rfl⟩) | (go_at_call 6; refine (same (dom_any a 0 c [] _ (by omega) h)).mono ?_; rintro e w' ⟨rfl, rfl⟩))
  refine wp_loop_rounds 1 ?_
  rw [rounds_succ]
  go_wp2_with (first | (at_make; refine wpList_make_blk 22 21 Try.underlying22 info21 rfl _ _ rfl 2 _ _ _ _ rfl rfl (by omega) (by omega) (by omega) ?_; intro w1 hB1 hb1) | (with_reducible show wpList _ _ _ (⟨_, .call { callee := .builtin .copy, args := _, argTypes := _ }, _, _, _, _⟩ :: _) _ _; refine wpList_copy_blk rfl _ _ rfl w.heap.size 0 (some ⟨w.heap.size, 0, none⟩) a 2 2 0 c rfl rfl (List.replicate 2 0) [] hB1 (h.later hb1) (fun _ => rfl) (by omega) (by simp) ?_; intro w2 hB2 hb2; obtain ⟨v0, hc0⟩ := hB2.cell (i := 0) (by rw [splice_zero [] 0 2 HZ.out (by omega)]; simp [HZ.out]; try omega); have hf0 := hB2.free (0); obtain ⟨v1, hc1⟩ := hB2.cell (i := 1) (by rw [splice_zero [] 0 2 HZ.out (by omega)]; simp [HZ.out]; try omega); have hf1 := hB2.free (1)))
  have hB3 := (hB2.set (0) 47).set (1) (-2)
  have e3 := byHand HZ.out HM.out (show 0 ≤ 2 by omega)
  rw [show 2 - 2 = 0 from by omega, show 2 - 1 = 1 from by omega] at e3
  rw [e3] at hB3
  have hbW := ((hb1.trans hb2).setCell (p := ⟨w.heap.size, 0, none⟩) (Nat.le_refl _) (.int .i32 47)).setCell (p := ⟨w.heap.size, 1, none⟩) (Nat.le_refl _) (.int .i32 (-2))
  clear hB1 hb1 hB2 hb2 hc0 hf0 hc1 hf1 e3
  generalize (w2.setCell ⟨w.heap.size, 0, none⟩ (.int .i32 47)).setCell ⟨w.heap.size, 1, none⟩ (.int .i32 (-2)) = W3 at hB3 hbW ⊢
  have hRw := hB3.row HM.out
  refine (zbelow_at a 0 c 2 [] _ (by omega) (h.later hbW) HM).mono ?_
  rintro e w4 ⟨g4, rfl, hR4, hb4⟩
  have hRw4 := hRw.later hb4
  have hbw4 := hbW.trans (hb4.mono hbW.size)
  clear hRw hb4 hbW hB3
  go_wp2_with fail
  refine (equal_any _ _ 2 2 2 (blw []) _ (by omega) hR4 hRw4).mono ?_
  rintro e w5 ⟨rfl, hb5⟩
  have hR5 := hR4.later hb5
  have hbw5 := hbw4.trans (hb5.mono hbw4.size)
  clear hR4 hRw4 hbw4 hb5
  have HM2 : Hid ((blw (blw [])).length = 4) := by show _ = _; rw [blw_blw, List.length_append, HM.out]; rfl
  go_wp2_with fail
  refine (zbelow_at (some ⟨g4, 0, none⟩) 2 2 4 (blw []) _ (by omega) hR5 HM2).mono ?_
  rintro e w6 ⟨g6, rfl, hR6, hb6⟩
  rw [blw_blw] at hR6
  have hR5' := hR5.later hb6
  have hbw6 := hbw5.trans (hb6.mono hbw5.size)
  clear hR5 hb6 hbw5
  have HL : Hid ((blw []).length = 2) := HM
  go_wp2_with (first | (at_make; refine wpList_make_blk 22 21 Try.underlying22 info21 rfl _ _ rfl 4 _ _ _ _ rfl rfl (by omega) (by omega) (by omega) ?_; intro w7 hB7 hb7) | (with_reducible show wpList _ _ _ (⟨_, .call { callee := .builtin .copy, args := _, argTypes := _ }, _, _, _, _⟩ :: _) _ _; refine wpList_copy_blk rfl _ _ rfl w6.heap.size 0 (some ⟨w6.heap.size, 0, none⟩) (some ⟨g4, 0, none⟩) 4 4 2 2 rfl rfl (List.replicate 4 0) (blw []) hB7 (hR5'.later hb7) (fun _ => rfl) (by omega) (by simp; try omega) ?_; intro w8 hB8 hb8; obtain ⟨v2, hc2⟩ := hB8.cell (i := 2) (by rw [splice_zero (blw []) 2 4 HL.out (by omega)]; simp [HL.out]; try omega); have hf2 := hB8.free (2); obtain ⟨v3, hc3⟩ := hB8.cell (i := 3) (by rw [splice_zero (blw []) 2 4 HL.out (by omega)]; simp [HL.out]; try omega); have hf3 := hB8.free (3)))
  have hB9 := (hB8.set (2) 47).set (3) (-2)
  have e9 := byHand2 (blw []) 2 HL.out
  rw [e9] at hB9
  have hb78 := (hb7.trans hb8)
  have hbW := (hb78.setCell (p := ⟨w6.heap.size, 2, none⟩) (Nat.le_refl _) (.int .i32 47)).setCell (p := ⟨w6.heap.size, 3, none⟩) (Nat.le_refl _) (.int .i32 (-2))
  clear hB7 hb7 hB8 hb8 hc2 hf2 hc3 hf3 hb78 e9
  generalize (w8.setCell ⟨w6.heap.size, 2, none⟩ (.int .i32 47)).setCell ⟨w6.heap.size, 3, none⟩ (.int .i32 (-2)) = W9 at hB9 hbW ⊢
  have hRw := hB9.row (n := 4) (by rw [List.length_append, HL.out]; rfl)
  refine (equal_any _ _ 4 4 4 (blw [] ++ [47, -2]) _ (by omega) (hR6.later hbW) hRw).mono ?_
  rintro e w10 ⟨rfl, hb10⟩
  have hbw9 := hbw6.trans (hbW.mono hbw6.size)
  go_wp2
  go_ret
  exact ⟨rfl, hbw9.trans (hb10.mono hbw9.size)⟩


set_option maxRecDepth 100000 in
set_option maxHeartbeats 2000000 in
theorem short_ends (b off k c : Nat) (zs : List Int) (z : Int) (w : World) (hl : k ≤ 65535) (h : Row w (some ⟨b, off, none⟩) (k + 1) zs) (hlast : Hid (zs.getD k 0 = z)) (hz47 : (z == 47) = true) (hdom : dom zs = true) :
    Calls Try.prog 3 #[.slice (some ⟨b, off, none⟩) (k + 1) c] w fun e w' => e = .returned (.bool true) ∧ Below w.heap.size w w' := by
  have hlen := h.len
  have he : ends zs = true := by
    rw [ends_iff (by omega), show zs.length - 1 = k from by omega, hlast.out]; exact hz47
  have HM : Hid ((blw zs).length = (k + 1 + 1)) := by show _ = _; rw [blw_length, he, hlen]; rfl
  clear he hlen
  have hd : decide ((65536 : Int) < (k : Int) + 1) = false := decide_eq_false (by omega)
  have hby : bytes2 (k + 1) 0 = true := decide_eq_true (by omega)
  have HZ : Hid (zs.length = (k + 1)) := h.len
  go_enter Try.func3, Try.ntmps3
  go_wp2_with (first | (go_at_call 5; refine (same (bytes1_any (some ⟨b, off, none⟩) (k + 1) c _ (by unfold maxLen; omega))).mono ?_; rintro e w' ⟨rfl, rfl⟩) | (go_at_call 6; refine (same (dom_any (some ⟨b, off, none⟩) (k + 1) c zs _ (by omega) h)).mono ?_; rintro e w' ⟨rfl, rfl⟩))
  refine wp_loop_rounds 1 ?_
  rw [rounds_succ]
  go_wp2_with (first | (go_at_call 7; refine (same (canEnd_last b off k c zs z _ (by omega) h hlast)).mono ?_; rintro e w' ⟨rfl, rfl⟩) | (at_make; refine wpList_make_blk 22 21 Try.underlying22 info21 rfl _ _ rfl (k + 1 + 1) _ _ _ _ rfl rfl (by omega) (by omega) (by omega) ?_; intro w1 hB1 hb1) | (with_reducible show wpList _ _ _ (⟨_, .call { callee := .builtin .copy, args := _, argTypes := _ }, _, _, _, _⟩ :: _) _ _; refine wpList_copy_blk rfl _ _ rfl w.heap.size 0 (some ⟨w.heap.size, 0, none⟩) (some ⟨b, off, none⟩) (k + 1 + 1) (k + 1 + 1) (k + 1) c rfl rfl (List.replicate (k + 1 + 1) 0) zs hB1 (h.later hb1) (fun _ => rfl) (by omega) (by simp) ?_; intro w2 hB2 hb2; obtain ⟨v0, hc0⟩ := hB2.cell (i := k) (by rw [splice_zero zs (k + 1) (k + 1 + 1) HZ.out (by omega)]; simp [HZ.out]; try omega); have hf0 := hB2.free (k); obtain ⟨v1, hc1⟩ := hB2.cell (i := k + 1) (by rw [splice_zero zs (k + 1) (k + 1 + 1) HZ.out (by omega)]; simp [HZ.out]; try omega); have hf1 := hB2.free (k + 1)))
  have hB3 := (hB2.set (k) 47).set (k + 1) (-2)
  have e3 := byHand HZ.out HM.out (show (k + 1) ≤ (k + 1 + 1) by omega)
  rw [show (k + 1 + 1) - 2 = k from by omega, show (k + 1 + 1) - 1 = k + 1 from by omega] at e3
  rw [e3] at hB3
  have hbW := ((hb1.trans hb2).setCell (p := ⟨w.heap.size, k, none⟩) (Nat.le_refl _) (.int .i32 47)).setCell (p := ⟨w.heap.size, k + 1, none⟩) (Nat.le_refl _) (.int .i32 (-2))
  clear hB1 hb1 hB2 hb2 hc0 hf0 hc1 hf1 e3
  generalize (w2.setCell ⟨w.heap.size, k, none⟩ (.int .i32 47)).setCell ⟨w.heap.size, k + 1, none⟩ (.int .i32 (-2)) = W3 at hB3 hbW ⊢
  have hRw := hB3.row HM.out
  refine (zbelow_at (some ⟨b, off, none⟩) (k + 1) c (k + 1 + 1) zs _ (by omega) (h.later hbW) HM).mono ?_
  rintro e w4 ⟨g4, rfl, hR4, hb4⟩
  have hRw4 := hRw.later hb4
  have hbw4 := hbW.trans (hb4.mono hbW.size)
  clear hRw hb4 hbW hB3
  go_wp2_with fail
  refine (equal_any _ _ (k + 1 + 1) (k + 1 + 1) (k + 1 + 1) (blw zs) _ (by omega) hR4 hRw4).mono ?_
  rintro e w5 ⟨rfl, hb5⟩
  have hR5 := hR4.later hb5
  have hbw5 := hbw4.trans (hb5.mono hbw4.size)
  clear hR4 hRw4 hbw4 hb5
  have HM2 : Hid ((blw (blw zs)).length = (k + 1 + 1 + 2)) := by show _ = _; rw [blw_blw, List.length_append, HM.out]; rfl
  go_wp2_with fail
  refine (zbelow_at (some ⟨g4, 0, none⟩) (k + 1 + 1) (k + 1 + 1) (k + 1 + 1 + 2) (blw zs) _ (by omega) hR5 HM2).mono ?_
  rintro e w6 ⟨g6, rfl, hR6, hb6⟩
  rw [blw_blw] at hR6
  have hR5' := hR5.later hb6
  have hbw6 := hbw5.trans (hb6.mono hbw5.size)
  clear hR5 hb6 hbw5
  have HL : Hid ((blw zs).length = (k + 1 + 1)) := HM
  go_wp2_with (first | (at_make; refine wpList_make_blk 22 21 Try.underlying22 info21 rfl _ _ rfl (k + 1 + 1 + 2) _ _ _ _ rfl rfl (by omega) (by omega) (by omega) ?_; intro w7 hB7 hb7) | (with_reducible show wpList _ _ _ (⟨_, .call { callee := .builtin .copy, args := _, argTypes := _ }, _, _, _, _⟩ :: _) _ _; refine wpList_copy_blk rfl _ _ rfl w6.heap.size 0 (some ⟨w6.heap.size, 0, none⟩) (some ⟨g4, 0, none⟩) (k + 1 + 1 + 2) (k + 1 + 1 + 2) (k + 1 + 1) (k + 1 + 1) rfl rfl (List.replicate (k + 1 + 1 + 2) 0) (blw zs) hB7 (hR5'.later hb7) (fun _ => rfl) (by omega) (by simp; try omega) ?_; intro w8 hB8 hb8; obtain ⟨v2, hc2⟩ := hB8.cell (i := (k + 1 + 1)) (by rw [splice_zero (blw zs) (k + 1 + 1) (k + 1 + 1 + 2) HL.out (by omega)]; simp [HL.out]; try omega); have hf2 := hB8.free ((k + 1 + 1)); obtain ⟨v3, hc3⟩ := hB8.cell (i := k + 1 + 1 + 1) (by rw [splice_zero (blw zs) (k + 1 + 1) (k + 1 + 1 + 2) HL.out (by omega)]; simp [HL.out]; try omega); have hf3 := hB8.free (k + 1 + 1 + 1)))
  have hB9 := (hB8.set ((k + 1 + 1)) 47).set (k + 1 + 1 + 1) (-2)
  have e9 := byHand2 (blw zs) (k + 1 + 1) HL.out
  rw [e9] at hB9
  have hb78 := (hb7.trans hb8)
  have hbW := (hb78.setCell (p := ⟨w6.heap.size, (k + 1 + 1), none⟩) (Nat.le_refl _) (.int .i32 47)).setCell (p := ⟨w6.heap.size, k + 1 + 1 + 1, none⟩) (Nat.le_refl _) (.int .i32 (-2))
  clear hB7 hb7 hB8 hb8 hc2 hf2 hc3 hf3 hb78 e9
  generalize (w8.setCell ⟨w6.heap.size, (k + 1 + 1), none⟩ (.int .i32 47)).setCell ⟨w6.heap.size, k + 1 + 1 + 1, none⟩ (.int .i32 (-2)) = W9 at hB9 hbW ⊢
  have hRw := hB9.row (n := (k + 1 + 1 + 2)) (by rw [List.length_append, HL.out]; rfl)
  refine (equal_any _ _ (k + 1 + 1 + 2) (k + 1 + 1 + 2) (k + 1 + 1 + 2) (blw zs ++ [47, -2]) _ (by omega) (hR6.later hbW) hRw).mono ?_
  rintro e w10 ⟨rfl, hb10⟩
  have hbw9 := hbw6.trans (hbW.mono hbw6.size)
  go_wp2
  go_ret
  exact ⟨rfl, hbw9.trans (hb10.mono hbw9.size)⟩


set_option maxRecDepth 100000 in
set_option maxHeartbeats 2000000 in
theorem short_plain (b off k c : Nat) (zs : List Int) (z : Int) (w : World) (hl : k ≤ 65535) (h : Row w (some ⟨b, off, none⟩) (k + 1) zs) (hlast : Hid (zs.getD k 0 = z)) (hz47 : (z == 47) = false) (hdom : dom zs = true) :
    Calls Try.prog 3 #[.slice (some ⟨b, off, none⟩) (k + 1) c] w fun e w' => e = .returned (.bool true) ∧ Below w.heap.size w w' := by
  have hlen := h.len
  have he : ends zs = false := by
    rw [ends_iff (by omega), show zs.length - 1 = k from by omega, hlast.out]; exact hz47
  have HM : Hid ((blw zs).length = (k + 1 + 2)) := by show _ = _; rw [blw_length, he, hlen]; rfl
  clear he hlen
  have hd : decide ((65536 : Int) < (k : Int) + 1) = false := decide_eq_false (by omega)
  have hby : bytes2 (k + 1) 0 = true := decide_eq_true (by omega)
  have HZ : Hid (zs.length = (k + 1)) := h.len
  go_enter Try.func3, Try.ntmps3
  go_wp2_with (first | (go_at_call 5; refine (same (bytes1_any (some ⟨b, off, none⟩) (k + 1) c _ (by unfold maxLen; omega))).mono ?_; rintro e w' ⟨rfl, rfl⟩) | (go_at_call 6; refine (same (dom_any (some ⟨b, off, none⟩) (k + 1) c zs _ (by omega) h)).mono ?_; rintro e w' ⟨rfl, rfl⟩))
  refine wp_loop_rounds 2 ?_
  rw [rounds_succ]
  go_wp2_with (go_at_call 7; refine (same (canEnd_last b off k c zs z _ (by omega) h hlast)).mono ?_; rintro e w' ⟨rfl, rfl⟩)
  rw [rounds_succ]
  go_wp2_with (first | (go_at_call 7; refine (same (canEnd_last b off k c zs z _ (by omega) h hlast)).mono ?_; rintro e w' ⟨rfl, rfl⟩) | (at_make; refine wpList_make_blk 22 21 Try.underlying22 info21 rfl _ _ rfl (k + 1 + 2) _ _ _ _ rfl rfl (by omega) (by omega) (by omega) ?_; intro w1 hB1 hb1) | (with_reducible show wpList _ _ _ (⟨_, .call { callee := .builtin .copy, args := _, argTypes := _ }, _, _, _, _⟩ :: _) _ _; refine wpList_copy_blk rfl _ _ rfl w.heap.size 0 (some ⟨w.heap.size, 0, none⟩) (some ⟨b, off, none⟩) (k + 1 + 2) (k + 1 + 2) (k + 1) c rfl rfl (List.replicate (k + 1 + 2) 0) zs hB1 (h.later hb1) (fun _ => rfl) (by omega) (by simp) ?_; intro w2 hB2 hb2; obtain ⟨v0, hc0⟩ := hB2.cell (i := k + 1) (by rw [splice_zero zs (k + 1) (k + 1 + 2) HZ.out (by omega)]; simp [HZ.out]; try omega); have hf0 := hB2.free (k + 1); obtain ⟨v1, hc1⟩ := hB2.cell (i := k + 1 + 1) (by rw [splice_zero zs (k + 1) (k + 1 + 2) HZ.out (by omega)]; simp [HZ.out]; try omega); have hf1 := hB2.free (k + 1 + 1)))
  have hB3 := (hB2.set (k + 1) 47).set (k + 1 + 1) (-2)
  have e3 := byHand HZ.out HM.out (show (k + 1) ≤ (k + 1 + 2) by omega)
  rw [show (k + 1 + 2) - 2 = k + 1 from by omega, show (k + 1 + 2) - 1 = k + 1 + 1 from by omega] at e3
  rw [e3] at hB3
  have hbW := ((hb1.trans hb2).setCell (p := ⟨w.heap.size, k + 1, none⟩) (Nat.le_refl _) (.int .i32 47)).setCell (p := ⟨w.heap.size, k + 1 + 1, none⟩) (Nat.le_refl _) (.int .i32 (-2))
  clear hB1 hb1 hB2 hb2 hc0 hf0 hc1 hf1 e3
  generalize (w2.setCell ⟨w.heap.size, k + 1, none⟩ (.int .i32 47)).setCell ⟨w.heap.size, k + 1 + 1, none⟩ (.int .i32 (-2)) = W3 at hB3 hbW ⊢
  have hRw := hB3.row HM.out
  refine (zbelow_at (some ⟨b, off, none⟩) (k + 1) c (k + 1 + 2) zs _ (by omega) (h.later hbW) HM).mono ?_
  rintro e w4 ⟨g4, rfl, hR4, hb4⟩
  have hRw4 := hRw.later hb4
  have hbw4 := hbW.trans (hb4.mono hbW.size)
  clear hRw hb4 hbW hB3
  go_wp2_with fail
  refine (equal_any _ _ (k + 1 + 2) (k + 1 + 2) (k + 1 + 2) (blw zs) _ (by omega) hR4 hRw4).mono ?_
  rintro e w5 ⟨rfl, hb5⟩
  have hR5 := hR4.later hb5
  have hbw5 := hbw4.trans (hb5.mono hbw4.size)
  clear hR4 hRw4 hbw4 hb5
  have HM2 : Hid ((blw (blw zs)).length = (k + 1 + 2 + 2)) := by show _ = _; rw [blw_blw, List.length_append, HM.out]; rfl
  go_wp2_with fail
  refine (zbelow_at (some ⟨g4, 0, none⟩) (k + 1 + 2) (k + 1 + 2) (k + 1 + 2 + 2) (blw zs) _ (by omega) hR5 HM2).mono ?_
  rintro e w6 ⟨g6, rfl, hR6, hb6⟩
  rw [blw_blw] at hR6
  have hR5' := hR5.later hb6
  have hbw6 := hbw5.trans (hb6.mono hbw5.size)
  clear hR5 hb6 hbw5
  have HL : Hid ((blw zs).length = (k + 1 + 2)) := HM
  go_wp2_with (first | (at_make; refine wpList_make_blk 22 21 Try.underlying22 info21 rfl _ _ rfl (k + 1 + 2 + 2) _ _ _ _ rfl rfl (by omega) (by omega) (by omega) ?_; intro w7 hB7 hb7) | (with_reducible show wpList _ _ _ (⟨_, .call { callee := .builtin .copy, args := _, argTypes := _ }, _, _, _, _⟩ :: _) _ _; refine wpList_copy_blk rfl _ _ rfl w6.heap.size 0 (some ⟨w6.heap.size, 0, none⟩) (some ⟨g4, 0, none⟩) (k + 1 + 2 + 2) (k + 1 + 2 + 2) (k + 1 + 2) (k + 1 + 2) rfl rfl (List.replicate (k + 1 + 2 + 2) 0) (blw zs) hB7 (hR5'.later hb7) (fun _ => rfl) (by omega) (by simp; try omega) ?_; intro w8 hB8 hb8; obtain ⟨v2, hc2⟩ := hB8.cell (i := (k + 1 + 2)) (by rw [splice_zero (blw zs) (k + 1 + 2) (k + 1 + 2 + 2) HL.out (by omega)]; simp [HL.out]; try omega); have hf2 := hB8.free ((k + 1 + 2)); obtain ⟨v3, hc3⟩ := hB8.cell (i := k + 1 + 2 + 1) (by rw [splice_zero (blw zs) (k + 1 + 2) (k + 1 + 2 + 2) HL.out (by omega)]; simp [HL.out]; try omega); have hf3 := hB8.free (k + 1 + 2 + 1)))
  have hB9 := (hB8.set ((k + 1 + 2)) 47).set (k + 1 + 2 + 1) (-2)
  have e9 := byHand2 (blw zs) (k + 1 + 2) HL.out
  rw [e9] at hB9
  have hb78 := (hb7.trans hb8)
  have hbW := (hb78.setCell (p := ⟨w6.heap.size, (k + 1 + 2), none⟩) (Nat.le_refl _) (.int .i32 47)).setCell (p := ⟨w6.heap.size, k + 1 + 2 + 1, none⟩) (Nat.le_refl _) (.int .i32 (-2))
  clear hB7 hb7 hB8 hb8 hc2 hf2 hc3 hf3 hb78 e9
  generalize (w8.setCell ⟨w6.heap.size, (k + 1 + 2), none⟩ (.int .i32 47)).setCell ⟨w6.heap.size, k + 1 + 2 + 1, none⟩ (.int .i32 (-2)) = W9 at hB9 hbW ⊢
  have hRw := hB9.row (n := (k + 1 + 2 + 2)) (by rw [List.length_append, HL.out]; rfl)
  refine (equal_any _ _ (k + 1 + 2 + 2) (k + 1 + 2 + 2) (k + 1 + 2 + 2) (blw zs ++ [47, -2]) _ (by omega) (hR6.later hbW) hRw).mono ?_
  rintro e w10 ⟨rfl, hb10⟩
  have hbw9 := hbw6.trans (hbW.mono hbw6.size)
  go_wp2
  go_ret
  exact ⟨rfl, hbw9.trans (hb10.mono hbw9.size)⟩


end Go.Proofs.Qxb6632653a
