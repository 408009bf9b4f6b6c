/- FnBelowOfJoinIsPrefixThenBelowOfTail: the main walk. -/
import Derived.Test.Qxb6632653aShort
namespace Go.Proofs.Qxb6632653a
open Go.RowKit

theorem splice_join (s t : List Int) (n m : Nat) (hs : s.length = n) (ht : t.length = m) : splice (splice (List.replicate (n + m) (0 : Int)) 0 s) n t = s ++ t := by
  rw [splice_zero s n (n + m) hs (by omega), show n + m - n = m from by omega]
  simp [splice, hs, ht]

set_option maxRecDepth 100000 in
set_option maxHeartbeats 4000000 in
theorem join_main (a : Option Addr) (n c : Nat) (bt offt j d : Nat) (zs zt : List Int) (w : World) (hn : n ≤ 65536) (hm : j + 1 ≤ 65536)
    (hs : Row w a n zs) (ht : Row w (some ⟨bt, offt, none⟩) (j + 1) zt) (hdom : dom zs = true) (hdom' : dom zt = true) :
    Calls Try.prog 4 #[.slice a n c, .slice (some ⟨bt, offt, none⟩) (j + 1) d] w fun e w' => e = .returned (.bool true) ∧ Below w.heap.size w w' := by
  have hby : bytes2 n (j + 1) = true := decide_eq_true (by omega)
  have hd : decide ((65536 : Int) < (j : Int) + 1) = false := decide_eq_false (by omega)
  have HS : Hid (zs.length = n) := hs.len
  have HT : Hid (zt.length = j + 1) := ht.len
  go_enter Try.func4, Try.ntmps4
  go_wp2_with (first | (go_at_call 10; refine (same (bytes2_any a (some ⟨bt, offt, none⟩) n c (j + 1) d _ (by unfold maxLen; omega) (by unfold maxLen; omega))).mono ?_; rintro e w' ⟨rfl, rfl⟩) | (go_at_call_of 6 (Value.slice a n c); refine (same (dom_any a n c zs _ (by omega) hs)).mono ?_; rintro e w' ⟨rfl, rfl⟩) | (go_at_call_of 6 bt; refine (same (dom_any (some ⟨bt, offt, none⟩) (j + 1) d zt _ (by omega) ht)).mono ?_; rintro e w' ⟨rfl, rfl⟩) | (at_make; refine wpList_make_blk 22 21 Try.underlying22 info21 rfl _ _ rfl (n + (j + 1)) _ _ _ _ rfl rfl (by omega) (by omega) (by omega) ?_; intro w1 hB1 hb1) | (with_reducible show wpList _ _ _ (⟨_, .call { callee := .builtin .copy, args := #[.tmp 35, .tmp 36], argTypes := _ }, _, _, _, _⟩ :: _) _ _; refine wpList_copy_blk rfl _ _ rfl w.heap.size 0 (some ⟨w.heap.size, 0, none⟩) a (n + (j + 1)) (n + (j + 1)) n c rfl rfl (List.replicate (n + (j + 1)) 0) zs hB1 (hs.later hb1) (fun _ => rfl) (by omega) (by simp) ?_; intro w2 hB2 hb2) | (with_reducible show wpList _ _ _ (⟨_, .call { callee := .builtin .copy, args := #[.tmp 41, .tmp 42], argTypes := _ }, _, _, _, _⟩ :: _) _ _; refine wpList_copy_blk rfl _ _ rfl w.heap.size n (some ⟨w.heap.size, n, none⟩) (some ⟨bt, offt, none⟩) (j + 1) (j + 1) (j + 1) d rfl rfl _ zt hB2 (ht.later (hb1.trans hb2)) (fun _ => rfl) (Nat.le_refl _) (by rw [splice_zero zs n (n + (j + 1)) HS.out (by omega)]; simp [HS.out]; try omega) ?_; intro w3 hB3 hb3))
  have hbw := (hb1.trans hb2).trans hb3
  rw [splice_join zs zt n (j + 1) HS.out HT.out] at hB3
  have hRj := hB3.row (n := n + (j + 1)) (by rw [List.length_append, HS.out, HT.out])
  clear hB1 hb1 hB2 hb2 hB3 hb3
  obtain ⟨q, HQ⟩ : ∃ q, Hid ((blw zt).length = q + 2) := ⟨(blw zt).length - 2, by show _ = _; have := blw_two zt; omega⟩
  have hq1 : j ≤ q := by have := (blw_bounds zt).1; rw [HQ.out, HT.out] at this; omega
  have hq2 : q ≤ j + 1 := by have := (blw_bounds zt).2; rw [HQ.out, HT.out] at this; omega
  have HJ : Hid (blw (zs ++ zt) = zs ++ blw zt) := blw_append zs (by rw [HT.out]; omega)
  have HJL : Hid ((blw (zs ++ zt)).length = n + (q + 2)) := by show _ = _; rw [HJ.out, List.length_append, HS.out, HQ.out]
  refine (zbelow_at (some ⟨w.heap.size, 0, none⟩) (n + (j + 1)) (n + (j + 1)) (n + (q + 2)) (zs ++ zt) _ (by omega) hRj HJL).mono ?_
  rintro e w4 ⟨gj, rfl, hRbj, hb4⟩
  rw [HJ.out] at hRbj
  have hbw4 := hbw.trans (hb4.mono hbw.size)
  clear hRj hb4 hbw HJ HJL
  go_wp2_with fail
  refine (zbelow_at (some ⟨bt, offt, none⟩) (j + 1) d (q + 2) zt _ (by omega) (ht.later hbw4) HQ).mono ?_
  rintro e w5 ⟨gt, rfl, hRbt, hb5⟩
  have hRbj5 := hRbj.later hb5
  have hbw5 := hbw4.trans (hb5.mono hbw4.size)
  clear hRbj hb5 hbw4
  go_wp2_with fail
  have hT1 : Row w5 (some ⟨gt, 0, none⟩) (j + 1) zt := by
    have := hRbt.take (k := j + 1) (by omega)
    rw [← HT.out, blw_take] at this
    rw [HT.out] at this
    exact this
  refine (equal_any _ _ (j + 1) (q + 2) d zt _ (by omega) hT1 (ht.later hbw5)).mono ?_
  rintro e w6 ⟨rfl, hb6⟩
  have hRbt6 := hRbt.later hb6
  have hRbj6 := hRbj5.later hb6
  have hbw6 := hbw5.trans (hb6.mono hbw5.size)
  clear hT1 hRbt hRbj5 hb6 hbw5
  have hc0 : w6.cell? ⟨gt, q, none⟩ = some (.int .i32 47) := by
    have := hRbt6.cell (k := q) (by omega)
    have e := blw_prev zt
    rw [HQ.out, show q + 2 - 2 = q from by omega] at e
    rw [e] at this
    simpa using this
  have hc1 : w6.cell? ⟨gt, q + 1, none⟩ = some (.int .i32 (-2)) := by
    have := hRbt6.cell (k := q + 1) (by omega)
    have e := blw_last zt
    rw [HQ.out, show q + 2 - 1 = q + 1 from by omega] at e
    rw [e] at this
    simpa using this
  go_wp2_with fail
  have hS1 : Row w6 (some ⟨gj, 0, none⟩) n zs := by
    have := hRbj6.take (k := n) (by omega)
    rw [List.take_append_of_le_length (by rw [HS.out]; exact Nat.le_refl _), List.take_of_length_le (by rw [HS.out]; exact Nat.le_refl _)] at this
    exact this
  refine (equal_any _ _ n (n + (q + 2)) c zs _ (by omega) hS1 (hs.later hbw6)).mono ?_
  rintro e w7 ⟨rfl, hb7⟩
  have hRbt7 := hRbt6.later hb7
  have hRbj7 := hRbj6.later hb7
  have hbw7 := hbw6.trans (hb7.mono hbw6.size)
  clear hS1 hRbt6 hRbj6 hb7 hbw6 hc0 hc1
  have hD : Row w7 (some ⟨gj, n, none⟩) (q + 2) (blw zt) := by
    have := hRbj7.drop n
    rw [Nat.zero_add, Nat.add_sub_cancel_left, List.drop_append_of_le_length (by rw [HS.out]; exact Nat.le_refl _), List.drop_of_length_le (by rw [HS.out]; exact Nat.le_refl _), List.nil_append] at this
    exact this
  go_wp2_with fail
  refine (equal_any _ _ (q + 2) (q + 2) (q + 2) (blw zt) _ (by omega) hD hRbt7).mono ?_
  rintro e w8 ⟨rfl, hb8⟩
  go_wp2
  go_ret
  exact ⟨rfl, hbw7.trans (hb8.mono hbw7.size)⟩

end Go.Proofs.Qxb6632653a
