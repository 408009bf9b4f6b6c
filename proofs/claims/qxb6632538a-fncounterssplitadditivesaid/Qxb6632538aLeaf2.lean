/- More leaves: the model's sum, the bounds on lengths, the names. -/
import Derived.Test.Qxb6632538aLeaf
namespace Go.Proofs.Qxb6632538a
open Go.RowKit

theorem int_eq {k : IntKind} {a b : Int} (h : a = b) : Value.int k a = .int k b := by rw [h]

set_option maxHeartbeats 400000 in
theorem model_any (a : Option Addr) (len cap : Nat) (zs : List Int) (s : Int) (w : World) (hl : len ≤ 1048576) (h : Row w a len zs)
    (hb : ∀ i, 0 ≤ zs.getD i 0 ∧ zs.getD i 0 ≤ 9223372036854775807) (hs : 0 < s) (hs' : s ≤ 9223372036854775807) :
    Calls Try.prog 9 #[.slice a len cap, .int .i64 s] w fun e w' => e = .returned (.int .i64 (mt s zs)) ∧ w' = w := by
  have hz := h.len
  have HB : Hid (∀ i, 0 ≤ zs.getD i 0 ∧ zs.getD i 0 ≤ 9223372036854775807) := hb
  clear hb
  by_cases h0 : len = 0
  · subst h0
    obtain rfl : zs = [] := List.eq_nil_of_length_eq_zero hz
    go_enter Try.func9, Try.ntmps9
    go_wp2
    refine wp_loop_rounds 1 ?_
    rw [rounds_succ]
    go_wp2
    go_ret
    exact ⟨ret_int rfl, rfl⟩
  · obtain ⟨b, off, rfl⟩ := h.form (by omega)
    go_enter Try.func9, Try.ntmps9
    go_wp2
    go_loop [5, 6] (fun n i => ∃ k : Nat, k ≤ len ∧ i = .int .i64 k ∧ n = .int .i64 (mt s (zs.take k))) (fun _ i => len - (intOf i).toNat)
    case atStart => exact ⟨0, Nat.zero_le _, rfl, rfl⟩
    case round =>
      obtain ⟨k, hk, rfl, rfl⟩ := hrel
      obtain ⟨m, hm⟩ : ∃ m, m = mt s (zs.take k) := ⟨_, rfl⟩
      rw [← hm]
      have HM : Hid (m = mt s (zs.take k)) := hm
      clear hm
      by_cases hlt : k < len
      · obtain ⟨z, HZ, hcell⟩ := h.spot hlt
        obtain ⟨hz1, hz2⟩ : 0 ≤ z ∧ z ≤ 9223372036854775807 := by rw [← HZ.out]; exact HB.out k
        go_wp2_with (go_at_call 14; refine (ceil_any _ _ _ hz1 hz2 hs hs').mono ?_; rintro e w' ⟨rfl, rfl⟩)
        go_round
        case rel => exact ⟨k + 1, by omega, by go_num, int_eq (by rw [mt_succ s zs k (by omega), HZ.out, ← HM.out, wrap64_wr])⟩
        case measure => simp [intOf]; omega
      · go_wp2
        go_ret
        exact ⟨ret_int (by rw [HM.out, List.take_of_length_le (by omega)]), rfl⟩

/-- What the bound on the total length answers. -/
def bytes2 (n m : Nat) : Bool := decide (n + m ≤ 1048576)

set_option maxHeartbeats 400000 in
theorem bytes2_any (a b : Option Addr) (n c m d : Nat) (x y : Int) (w : World) (hn : n ≤ maxLen) (hm : m ≤ maxLen) :
    Calls Try.prog 5 #[.slice a n c, .slice b m d, .int .i64 x, .int .i64 y] w fun e w' => e = .returned (.bool (bytes2 n m)) ∧ w' = w := by
  unfold maxLen at hn hm
  by_cases h1 : 1048576 < n
  · go_enter Try.func5, Try.ntmps5
    go_wp2
    go_ret
    exact ⟨ret_bool (by symm; exact decide_eq_false (by omega)), rfl⟩
  · by_cases h2 : 1048576 < m
    · go_enter Try.func5, Try.ntmps5
      go_wp2
      go_ret
      exact ⟨ret_bool (by symm; exact decide_eq_false (by omega)), rfl⟩
    · by_cases h3 : 1048576 < n + m
      · go_enter Try.func5, Try.ntmps5
        go_wp2
        go_ret
        exact ⟨ret_bool (by symm; exact decide_eq_false (by omega)), rfl⟩
      · go_enter Try.func5, Try.ntmps5
        go_wp2
        go_ret
        exact ⟨ret_bool (by symm; exact decide_eq_true (by omega)), rfl⟩

set_option maxHeartbeats 400000 in
theorem bytes1_any (a : Option Addr) (n c : Nat) (x y : Int) (w : World) (hn : n ≤ maxLen) :
    Calls Try.prog 12 #[.slice a n c, .int .i64 x, .int .i64 y] w fun e w' => e = .returned (.bool (bytes2 n 0)) ∧ w' = w := by
  unfold maxLen at hn
  by_cases h1 : 1048576 < n
  · go_enter Try.func12, Try.ntmps12
    go_wp2
    go_ret
    exact ⟨ret_bool (by symm; exact decide_eq_false (by omega)), rfl⟩
  · go_enter Try.func12, Try.ntmps12
    go_wp2
    go_ret
    exact ⟨ret_bool (by symm; exact decide_eq_true (by omega)), rfl⟩

/-- The names of the eleven counters that begin at nought. -/
def zname : Nat → ByteArray
  | 0 => ⟨#[109, 97, 112, 46, 105, 110, 112, 117, 116, 46, 114, 101, 99, 111, 114, 100, 115]⟩
  | 1 => ⟨#[109, 97, 112, 46, 111, 117, 116, 112, 117, 116, 46, 114, 101, 99, 111, 114, 100, 115]⟩
  | 2 => ⟨#[99, 111, 109, 98, 105, 110, 101, 46, 105, 110, 112, 117, 116, 46, 114, 101, 99, 111, 114, 100, 115]⟩
  | 3 => ⟨#[99, 111, 109, 98, 105, 110, 101, 46, 111, 117, 116, 112, 117, 116, 46, 114, 101, 99, 111, 114, 100, 115]⟩
  | 4 => ⟨#[114, 101, 100, 117, 99, 101, 46, 105, 110, 112, 117, 116, 46, 114, 101, 99, 111, 114, 100, 115]⟩
  | 5 => ⟨#[114, 101, 100, 117, 99, 101, 46, 111, 117, 116, 112, 117, 116, 46, 114, 101, 99, 111, 114, 100, 115]⟩
  | 6 => ⟨#[114, 101, 99, 111, 114, 100, 115, 46, 115, 107, 105, 112, 112, 101, 100]⟩
  | 7 => ⟨#[116, 97, 115, 107, 115, 46, 109, 97, 112, 46, 114, 101, 114, 117, 110]⟩
  | 8 => ⟨#[116, 97, 115, 107, 115, 46, 114, 101, 100, 117, 99, 101, 46, 114, 101, 114, 117, 110]⟩
  | 9 => ⟨#[116, 97, 115, 107, 115, 46, 109, 97, 112, 46, 98, 97, 99, 107, 117, 112]⟩
  | 10 => ⟨#[116, 97, 115, 107, 115, 46, 114, 101, 100, 117, 99, 101, 46, 98, 97, 99, 107, 117, 112]⟩
  | 11 => ⟨#[116, 97, 115, 107, 115, 46, 109, 97, 112]⟩
  | 12 => ⟨#[116, 97, 115, 107, 115, 46, 114, 101, 100, 117, 99, 101]⟩
  | _ => ⟨#[122, 122, 46, 115, 116, 114, 97, 110, 103, 101, 114]⟩

set_option maxHeartbeats 1600000 in
theorem name_any (i : Nat) (w : World) (hi : i < 11) : Calls Try.prog 13 #[.int .i64 i] w fun e w' => e = .returned (.string (zname i)) ∧ w' = w := by
  match i, hi with
  | 0, _ => go_enter Try.func13, Try.ntmps13; go_wp2; go_ret; exact ⟨rfl, rfl⟩
  | 1, _ => go_enter Try.func13, Try.ntmps13; go_wp2; go_ret; exact ⟨rfl, rfl⟩
  | 2, _ => go_enter Try.func13, Try.ntmps13; go_wp2; go_ret; exact ⟨rfl, rfl⟩
  | 3, _ => go_enter Try.func13, Try.ntmps13; go_wp2; go_ret; exact ⟨rfl, rfl⟩
  | 4, _ => go_enter Try.func13, Try.ntmps13; go_wp2; go_ret; exact ⟨rfl, rfl⟩
  | 5, _ => go_enter Try.func13, Try.ntmps13; go_wp2; go_ret; exact ⟨rfl, rfl⟩
  | 6, _ => go_enter Try.func13, Try.ntmps13; go_wp2; go_ret; exact ⟨rfl, rfl⟩
  | 7, _ => go_enter Try.func13, Try.ntmps13; go_wp2; go_ret; exact ⟨rfl, rfl⟩
  | 8, _ => go_enter Try.func13, Try.ntmps13; go_wp2; go_ret; exact ⟨rfl, rfl⟩
  | 9, _ => go_enter Try.func13, Try.ntmps13; go_wp2; go_ret; exact ⟨rfl, rfl⟩
  | 10, _ => go_enter Try.func13, Try.ntmps13; go_wp2; go_ret; exact ⟨rfl, rfl⟩

end Go.Proofs.Qxb6632538a
