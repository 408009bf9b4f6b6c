/- The leaves' contracts: the bounds, the domain test, the equality test. -/
import Derived.Test.Qxb6632653aRows
import Derived.Test.Qxb6632653aPlain
import Derived.WalkKit
import Derived.ProofKit
import Derived.Below
import Derived.WalkSpells
import Derived.Deep.QuietTactic
import Derived.BigQuiet
namespace Go.Proofs.Qxb6632653a
open Go.RowKit

/-- What a walk is told of a slice of int32: its numbers, and where they lie. -/
def Row (w : World) (a : Option Addr) (len : Nat) (zs : List Int) : Prop :=
  zs.length = len ∧ (0 < len → ∃ b off, a = some ⟨b, off, none⟩ ∧ ∀ i, i < len → w.cell? ⟨b, off + i, none⟩ = some (.int .i32 (zs.getD i 0)))

theorem Row.len {w : World} {a : Option Addr} {len : Nat} {zs : List Int} (h : Row w a len zs) : zs.length = len := h.1
theorem Row.form {w : World} {a : Option Addr} {len : Nat} {zs : List Int} (h : Row w a len zs) (h0 : 0 < len) : ∃ b off, a = some ⟨b, off, none⟩ := by
  obtain ⟨b, off, rfl, _⟩ := h.2 h0; exact ⟨b, off, rfl⟩
theorem Row.cell {w : World} {b off len : Nat} {zs : List Int} (h : Row w (some ⟨b, off, none⟩) len zs) {k : Nat} (hk : k < len) : w.cell? ⟨b, off + k, none⟩ = some (.int .i32 (zs.getD k 0)) := by
  obtain ⟨b', off', e, hc⟩ := h.2 (by omega)
  simp only [Option.some.injEq, Addr.mk.injEq, and_true] at e
  obtain ⟨rfl, rfl⟩ := e
  exact hc k hk
theorem Row.spot {w : World} {b off len : Nat} {zs : List Int} (h : Row w (some ⟨b, off, none⟩) len zs) {k : Nat} (hk : k < len) : ∃ z, Hid (zs.getD k 0 = z) ∧ w.cell? ⟨b, off + k, none⟩ = some (.int .i32 z) := ⟨_, rfl, h.cell hk⟩
theorem Row.spot0 {w : World} {b len : Nat} {zs : List Int} (h : Row w (some ⟨b, 0, none⟩) len zs) {k : Nat} (hk : k < len) : ∃ z, Hid (zs.getD k 0 = z) ∧ w.cell? ⟨b, k, none⟩ = some (.int .i32 z) := by
  obtain ⟨z, h1, h2⟩ := h.spot hk
  exact ⟨z, h1, by simpa using h2⟩
theorem Row.later {w w' : World} {a : Option Addr} {len : Nat} {zs : List Int} (h : Row w a len zs) (hb : Below w.heap.size w w') : Row w' a len zs := by
  refine ⟨h.1, fun h0 => ?_⟩
  obtain ⟨b, off, rfl, hc⟩ := h.2 h0
  exact ⟨b, off, rfl, fun i hi => by rw [hb.cell (p := ⟨b, off + i, none⟩) (block_lt_of_cell (hc i hi))]; exact hc i hi⟩
theorem Row.take {w : World} {a : Option Addr} {len : Nat} {zs : List Int} (h : Row w a len zs) {k : Nat} (hk : k ≤ len) : Row w a k (zs.take k) := by
  refine ⟨by rw [List.length_take, h.1]; omega, fun h0 => ?_⟩
  obtain ⟨b, off, rfl, hc⟩ := h.2 (by omega)
  refine ⟨b, off, rfl, fun i hi => ?_⟩
  rw [hc i (by omega), List.getD_eq_getElem?_getD, List.getD_eq_getElem?_getD, List.getElem?_take_of_lt hi]
theorem Row.drop {w : World} {b off len : Nat} {zs : List Int} (h : Row w (some ⟨b, off, none⟩) len zs) (k : Nat) : Row w (some ⟨b, off + k, none⟩) (len - k) (zs.drop k) := by
  refine ⟨by rw [List.length_drop, h.1], fun h0 => ⟨b, off + k, rfl, fun i hi => ?_⟩⟩
  rw [Nat.add_assoc, h.cell (by omega), List.getD_eq_getElem?_getD, List.getD_eq_getElem?_getD, List.getElem?_drop]

theorem ret_bool {a b : Bool} (h : a = b) : Ending.returned (.bool a) = .returned (.bool b) := by rw [h]
theorem int_eq {k : IntKind} {a b : Int} (h : a = b) : Value.int k a = .int k b := by rw [h]
theorem same {P : Program} {f : FuncId} {args : Array Value} {w : World} {x : Ending} (h : Calls P f args w fun e w' => e = x ∧ w' = w) : Calls P f args w fun e w' => e = x ∧ w = w' :=
  h.mono fun _ _ ⟨h1, h2⟩ => ⟨h1, h2.symm⟩

set_option maxHeartbeats 400000 in
theorem dom_any (a : Option Addr) (len cap : Nat) (zs : List Int) (w : World) (hl : len ≤ 1048576) (h : Row w a len zs) :
    Calls Try.prog 6 #[.slice a len cap] w fun e w' => e = .returned (.bool (dom zs)) ∧ w' = w := by
  have hz := h.len
  by_cases h0 : len = 0
  · subst h0
    obtain rfl : zs = [] := List.eq_nil_of_length_eq_zero hz
    go_enter Try.func6, Try.ntmps6
    go_wp2
    refine wp_loop_rounds 1 ?_
    rw [rounds_succ]
    go_wp2
    go_ret
    exact ⟨rfl, rfl⟩
  · obtain ⟨b, off, rfl⟩ := h.form (by omega)
    go_enter Try.func6, Try.ntmps6
    go_wp2
    go_loop [3] (fun i => ∃ k : Nat, k ≤ len ∧ i = .int .i64 k ∧ dom (zs.take k) = true) (fun i => len - (intOf i).toNat)
    case atStart => exact ⟨0, Nat.zero_le _, rfl, rfl⟩
    case round =>
      obtain ⟨k, hk, rfl, hn⟩ := hrel
      by_cases hlt : k < len
      · obtain ⟨z, HZ, hcell⟩ := h.spot hlt
        by_cases hs : z < -2
        · go_wp2
          go_ret
          exact ⟨ret_bool (dom_false (i := k) (by omega) (by rw [HZ.out]; exact hs)).symm, rfl⟩
        · go_wp2
          go_round
          case rel => exact ⟨k + 1, by omega, by go_num, by rw [take_snoc zs k (by omega), dom_snoc, hn, Bool.true_and, HZ.out]; exact decide_eq_true (by omega)⟩
          case measure => simp [intOf]; omega
      · go_wp2
        go_ret
        exact ⟨ret_bool (by rw [List.take_of_length_le (by omega)] at hn; rw [hn]), rfl⟩

/-- What the bound on the total length answers. -/
def bytes2 (n m : Nat) : Bool := decide (n + m ≤ 1048576)

set_option maxHeartbeats 400000 in
theorem bytes2_any (a b : Option Addr) (n c m d : Nat) (w : World) (hn : n ≤ maxLen) (hm : m ≤ maxLen) :
    Calls Try.prog 10 #[.slice a n c, .slice b m d] w fun e w' => e = .returned (.bool (bytes2 n m)) ∧ w' = w := by
  unfold maxLen at hn hm
  by_cases h1 : 1048576 < n
  · go_enter Try.func10, Try.ntmps10
    go_wp2
    go_ret
    exact ⟨ret_bool (by symm; exact decide_eq_false (by omega)), rfl⟩
  · by_cases h2 : 1048576 < m
    · go_enter Try.func10, Try.ntmps10
      go_wp2
      go_ret
      exact ⟨ret_bool (by symm; exact decide_eq_false (by omega)), rfl⟩
    · by_cases h3 : 1048576 < n + m
      · go_enter Try.func10, Try.ntmps10
        go_wp2
        go_ret
        exact ⟨ret_bool (by symm; exact decide_eq_false (by omega)), rfl⟩
      · go_enter Try.func10, Try.ntmps10
        go_wp2
        go_ret
        exact ⟨ret_bool (by symm; exact decide_eq_true (by omega)), rfl⟩

set_option maxHeartbeats 400000 in
theorem bytes1_any (a : Option Addr) (n c : Nat) (w : World) (hn : n ≤ maxLen) :
    Calls Try.prog 5 #[.slice a n c] w fun e w' => e = .returned (.bool (bytes2 n 0)) ∧ w' = w := by
  unfold maxLen at hn
  by_cases h1 : 1048576 < n
  · go_enter Try.func5, Try.ntmps5
    go_wp2
    go_ret
    exact ⟨ret_bool (by symm; exact decide_eq_false (by omega)), rfl⟩
  · go_enter Try.func5, Try.ntmps5
    go_wp2
    go_ret
    exact ⟨ret_bool (by symm; exact decide_eq_true (by omega)), rfl⟩

theorem below_drewN (w : World) (n : Nat) (B : Nat) : Below B w (w.drewN n) := ⟨rfl, rfl, rfl, Nat.le_refl _, fun _ _ => rfl⟩

set_option maxHeartbeats 1000000 in
/-- The equality test, at rows that are equal. -/
theorem equal_any (a b : Option Addr) (len cap cap' : Nat) (zs : List Int) (w : World) (hl : len ≤ 1048576) (h : Row w a len zs) (h' : Row w b len zs) :
    Calls Try.prog 9 #[.slice a len cap, .slice b len cap'] w fun e w' => e = .returned (.bool true) ∧ Below w.heap.size w w' := by
  have hz := h.len
  by_cases h0 : len = 0
  · subst h0
    go_enter Try.func9, Try.ntmps9
    go_wp2
    refine wp_loop_rounds 1 ?_
    rw [rounds_succ]
    go_wp2
    go_ret
    exact ⟨rfl, Below.refl _ _⟩
  · obtain ⟨ba, offa, rfl⟩ := h.form (by omega)
    obtain ⟨bb, offb, rfl⟩ := h'.form (by omega)
    go_enter Try.func9, Try.ntmps9
    go_wp2
    go_loopw [5] (fun i wr => ∃ k : Nat, k ≤ len ∧ i = .int .i64 k ∧ Below w.heap.size w wr) (fun i _ => len - (intOf i).toNat)
    case atStart => exact ⟨0, Nat.zero_le _, rfl, Below.refl _ _⟩
    case round =>
      obtain ⟨k, hk, rfl, hb⟩ := hrel
      by_cases hlt : k < len
      · obtain ⟨z, HZ, hcell⟩ := (h.later hb).spot hlt
        obtain ⟨z', HZ', hcell'⟩ := (h'.later hb).spot hlt
        obtain rfl : z' = z := HZ'.out.symm.trans HZ.out
        have hi0 : (0 : Int) ≤ (k : Int) := by omega
        have hi1 : (k : Int) < (len : Int) := by omega
        go_wp2
        go_quiet (fail)
        go_wp2
        go_roundw
        case rel => exact ⟨k + 1, by omega, by go_num, hb.trans (below_drewN _ _ _)⟩
        case measure => simp [intOf]; omega
      · go_wp2
        go_ret
        exact ⟨rfl, hb⟩

end Go.Proofs.Qxb6632653a
