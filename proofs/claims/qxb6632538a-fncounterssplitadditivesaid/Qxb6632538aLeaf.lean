/- The leaves' contracts: the bounds, the sign test, the ceiling, the splits, the names. -/
import Derived.Test.Qxb6632538aRows
import Derived.Test.Qxb6632538aPlain
import Derived.WalkKit
import Derived.ProofKit
import Derived.Below
import Derived.WalkSpells
namespace Go.Proofs.Qxb6632538a
open Go.RowKit

/-- What a walk is told of a slice of int64: its numbers, and where they lie. -/
def Row (w : World) (a : Option Addr) (len : Nat) (zs : List Int) : Prop :=
  zs.length = len ∧ (0 < len → ∃ b off, a = some ⟨b, off, none⟩ ∧ ∀ i, i < len → w.cell? ⟨b, off + i, none⟩ = some (.int .i64 (zs.getD i 0)))

theorem Row.len {w : World} {a : Option Addr} {len : Nat} {zs : List Int} (h : Row w a len zs) : zs.length = len := h.1
theorem Row.form {w : World} {a : Option Addr} {len : Nat} {zs : List Int} (h : Row w a len zs) (h0 : 0 < len) : ∃ b off, a = some ⟨b, off, none⟩ := by
  obtain ⟨b, off, rfl, _⟩ := h.2 h0; exact ⟨b, off, rfl⟩
theorem Row.spot {w : World} {b off len : Nat} {zs : List Int} (h : Row w (some ⟨b, off, none⟩) len zs) {k : Nat} (hk : k < len) : ∃ z, Hid (zs.getD k 0 = z) ∧ w.cell? ⟨b, off + k, none⟩ = some (.int .i64 z) := by
  obtain ⟨b', off', e, hc⟩ := h.2 (by omega)
  simp only [Option.some.injEq, Addr.mk.injEq, and_true] at e
  obtain ⟨rfl, rfl⟩ := e
  exact ⟨_, rfl, hc k hk⟩

theorem ret_bool {a b : Bool} (h : a = b) : Ending.returned (.bool a) = .returned (.bool b) := by rw [h]
theorem ret_int {k : IntKind} {a b : Int} (h : a = b) : Ending.returned (.int k a) = .returned (.int k b) := by rw [h]

set_option maxHeartbeats 400000 in
theorem nonneg_any (a : Option Addr) (len cap : Nat) (zs : List Int) (w : World) (hl : len ≤ 1048576) (h : Row w a len zs) :
    Calls Try.prog 6 #[.slice a len cap] w fun e w' => e = .returned (.bool (nn zs)) ∧ w' = w := by
  have hz := h.len
  by_cases h0 : len = 0
  · subst h0
    obtain rfl : zs = [] := List.eq_nil_of_length_eq_zero hz
    go_enter Try.func6, Try.ntmps6
    go_wp2
    refine wp_loop_rounds 1 ?_
    rw [rounds_succ]
    go_wp2
    go_ret
    exact ⟨rfl, rfl⟩
  · obtain ⟨b, off, rfl⟩ := h.form (by omega)
    go_enter Try.func6, Try.ntmps6
    go_wp2
    go_loop [3] (fun i => ∃ k : Nat, k ≤ len ∧ i = .int .i64 k ∧ nn (zs.take k) = true) (fun i => len - (intOf i).toNat)
    case atStart => exact ⟨0, Nat.zero_le _, rfl, rfl⟩
    case round =>
      obtain ⟨k, hk, rfl, hn⟩ := hrel
      by_cases hlt : k < len
      · obtain ⟨z, HZ, hcell⟩ := h.spot hlt
        by_cases hs : z < 0
        · go_wp2
          go_ret
          exact ⟨ret_bool (nn_false (by rw [HZ.out]; exact hs)).symm, rfl⟩
        · go_wp2
          go_round
          case rel => exact ⟨k + 1, by omega, by go_num, by rw [take_snoc zs k (by omega), nn_snoc, hn, Bool.true_and, HZ.out]; exact decide_eq_true (by omega)⟩
          case measure => simp [intOf]; omega
      · go_wp2
        go_ret
        exact ⟨ret_bool (by rw [List.take_of_length_le (by omega)] at hn; rw [hn]), rfl⟩

theorem wrap64_wr (x : Int) : wrap64 x = wr x := by unfold wrap64 wr; rfl

set_option maxHeartbeats 400000 in
theorem ceil_any (z s : Int) (w : World) (hz : 0 ≤ z) (hz' : z ≤ 9223372036854775807) (hs : 0 < s) (hs' : s ≤ 9223372036854775807) :
    Calls Try.prog 14 #[.int .i64 z, .int .i64 s] w fun e w' => e = .returned (.int .i64 (ceil s z)) ∧ w' = w := by
  by_cases h0 : z = 0
  · subst h0
    go_enter Try.func14, Try.ntmps14
    go_wp2
    go_ret
    exact ⟨ret_int (by simp [ceil]), rfl⟩
  · have hb := ceil_bounds hs hz
    have he : ceil s z = (z - 1) / s + 1 := by unfold ceil; rw [if_neg h0]
    rw [he] at hb ⊢
    clear he
    have h1 : 1 ≤ z := by omega
    go_enter Try.func14, Try.ntmps14
    go_wp2
    go_ret
    exact ⟨rfl, rfl⟩

set_option maxHeartbeats 400000 in
theorem splits_any (p : ByteArray) (z s : Int) (w : World) (hz : 0 ≤ z) (hz' : z ≤ 9223372036854775807) (hs : 0 < s) (hs' : s ≤ 9223372036854775807) :
    Calls Try.prog 15 #[.agg #[.string p, .int .i64 z], .int .i64 s] w fun e w' => e = .returned (.int .i64 (ceil s z)) ∧ Below w.heap.size w w' := by
  have hb := ceil_bounds hs hz
  by_cases h0 : z % s = 0
  · have he := ceil_splits_even hs hz h0
    rw [← he] at hb ⊢
    clear he
    go_enter Try.func15, Try.ntmps15
    go_wp2
    go_ret
    exact ⟨rfl, (Below.refl _ _).alloc (Nat.le_refl _) _⟩
  · have he := ceil_splits_odd hs hz h0
    rw [← he] at hb ⊢
    clear he
    go_enter Try.func15, Try.ntmps15
    go_wp2
    go_ret
    exact ⟨rfl, (Below.refl _ _).alloc (Nat.le_refl _) _⟩

end Go.Proofs.Qxb6632538a
