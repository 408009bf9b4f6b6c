/- AVPs in memory; the bounds on lengths. -/
import Derived.Test.Qxb6634833aRows
import Derived.Test.Qxb6634833aPlain
import Derived.WalkKit
import Derived.ProofKit
import Derived.Below
import Derived.WalkSpells
import Derived.Deep.QuietTactic
import Derived.BigQuiet
namespace Go.Proofs.Qxb6634833a
open Go.RowKit

/-- One AVP, as its five cells hold it. -/
structure Av where
  code : Int
  flags : Int
  length : Int
  vendor : Int
  da : Option Addr
  dn : Nat
  dc : Nat

/-- The zero AVP. -/
def zav : Av := ⟨0, 0, 0, 0, none, 0, 0⟩
/-- Cell f of an AVP. -/
def cv (x : Av) : Nat → Value
  | 0 => .int .u32 x.code
  | 1 => .int .u8 x.flags
  | 2 => .int .u32 x.length
  | 3 => .int .u32 x.vendor
  | _ => .slice x.da x.dn x.dc

/-- The AVP x lies at place o of block b. -/
structure At5 (w : World) (b o : Nat) (x : Av) : Prop where
  c0 : w.cell? ⟨b, o, none⟩ = some (.int .u32 x.code)
  c1 : w.cell? ⟨b, o + 1, none⟩ = some (.int .u8 x.flags)
  c2 : w.cell? ⟨b, o + 2, none⟩ = some (.int .u32 x.length)
  c3 : w.cell? ⟨b, o + 3, none⟩ = some (.int .u32 x.vendor)
  c4 : w.cell? ⟨b, o + 4, none⟩ = some (.slice x.da x.dn x.dc)

theorem At5.lt {w : World} {b o : Nat} {x : Av} (h : At5 w b o x) : b < w.heap.size := block_lt_of_cell h.c0
theorem At5.below {w w' : World} {B b o : Nat} {x : Av} (h : At5 w b o x) (hb : Below B w w') (hB : b < B) : At5 w' b o x :=
  ⟨by rw [hb.cell (p := ⟨b, o, none⟩) hB]; exact h.c0, by rw [hb.cell (p := ⟨b, o + 1, none⟩) hB]; exact h.c1, by rw [hb.cell (p := ⟨b, o + 2, none⟩) hB]; exact h.c2,
   by rw [hb.cell (p := ⟨b, o + 3, none⟩) hB]; exact h.c3, by rw [hb.cell (p := ⟨b, o + 4, none⟩) hB]; exact h.c4⟩
theorem At5.later {w w' : World} {b o : Nat} {x : Av} (h : At5 w b o x) (hb : Below w.heap.size w w') : At5 w' b o x := h.below hb h.lt

/-- What a walk is told of a slice of AVPs. -/
def Row (w : World) (a : Option Addr) (n : Nat) (xs : List Av) : Prop :=
  xs.length = n ∧ (0 < n → ∃ b off, a = some ⟨b, off, none⟩ ∧ ∀ i, i < n → At5 w b (off + i * 5) (xs.getD i zav))

theorem Row.len {w : World} {a : Option Addr} {n : Nat} {xs : List Av} (h : Row w a n xs) : xs.length = n := h.1
theorem Row.form {w : World} {a : Option Addr} {n : Nat} {xs : List Av} (h : Row w a n xs) (h0 : 0 < n) : ∃ b off, a = some ⟨b, off, none⟩ := by
  obtain ⟨b, off, rfl, _⟩ := h.2 h0; exact ⟨b, off, rfl⟩
theorem Row.at5 {w : World} {b off n : Nat} {xs : List Av} (h : Row w (some ⟨b, off, none⟩) n xs) {k : Nat} (hk : k < n) : At5 w b (off + k * 5) (xs.getD k zav) := by
  obtain ⟨b', off', e, hc⟩ := h.2 (by omega)
  simp only [Option.some.injEq, Addr.mk.injEq, and_true] at e
  obtain ⟨rfl, rfl⟩ := e
  exact hc k hk
/-- .. under a name of its own. -/
theorem Row.spot {w : World} {b off n : Nat} {xs : List Av} (h : Row w (some ⟨b, off, none⟩) n xs) {k : Nat} (hk : k < n) : ∃ x, Hid (xs.getD k zav = x) ∧ At5 w b (off + k * 5) x := ⟨_, rfl, h.at5 hk⟩
theorem Row.spot0 {w : World} {b n : Nat} {xs : List Av} (h : Row w (some ⟨b, 0, none⟩) n xs) {k : Nat} (hk : k < n) : ∃ x, Hid (xs.getD k zav = x) ∧ At5 w b (k * 5) x := ⟨_, rfl, by simpa using h.at5 hk⟩
theorem Row.later {w w' : World} {a : Option Addr} {n : Nat} {xs : List Av} (h : Row w a n xs) (hb : Below w.heap.size w w') : Row w' a n xs := by
  refine ⟨h.1, fun h0 => ?_⟩
  obtain ⟨b, off, rfl, hc⟩ := h.2 h0
  exact ⟨b, off, rfl, fun i hi => (hc i hi).later hb⟩
theorem Row.take {w : World} {a : Option Addr} {n : Nat} {xs : List Av} (h : Row w a n xs) {k : Nat} (hk : k ≤ n) : Row w a k (xs.take k) := by
  refine ⟨by rw [List.length_take, h.1]; omega, fun h0 => ?_⟩
  obtain ⟨b, off, rfl, hc⟩ := h.2 (by omega)
  refine ⟨b, off, rfl, fun i hi => ?_⟩
  have e : (xs.take k).getD i zav = xs.getD i zav := by rw [List.getD_eq_getElem?_getD, List.getD_eq_getElem?_getD, List.getElem?_take_of_lt hi]
  rw [e]
  exact hc i (by omega)

/-- The bytes that an AVP's data lead to are there. -/
def Dat (w : World) (a : Option Addr) (n : Nat) : Prop := n ≤ maxLen ∧ (0 < n → ∃ b off, a = some ⟨b, off, none⟩ ∧ ∀ k, k < n → ∃ z, w.cell? ⟨b, off + k, none⟩ = some (.int .u8 z))
theorem Dat.later {w w' : World} {a : Option Addr} {n : Nat} (h : Dat w a n) (hb : Below w.heap.size w w') : Dat w' a n := by
  refine ⟨h.1, fun h0 => ?_⟩
  obtain ⟨b, off, rfl, hc⟩ := h.2 h0
  refine ⟨b, off, rfl, fun k hk => ?_⟩
  obtain ⟨z, hz⟩ := hc k hk
  exact ⟨z, by rw [hb.cell (p := ⟨b, off + k, none⟩) (block_lt_of_cell hz)]; exact hz⟩

theorem ret_bool {a b : Bool} (h : a = b) : Ending.returned (.bool a) = .returned (.bool b) := by rw [h]

/-- What a test of sizes answers: nothing has turned; where it says yes the slice is short. -/
def Ans (n : Nat) (w : World) (e : Ending) (w' : World) : Prop := ∃ v, e = .returned (.bool v) ∧ w = w' ∧ (v = true → n ≤ 1048576)
theorem Ans.no {n : Nat} {w : World} : Ans n w (.returned (.bool false)) w := ⟨false, rfl, rfl, fun e => by cases e⟩
theorem Ans.yes {n : Nat} {w : World} (h : n ≤ 1048576) : Ans n w (.returned (.bool true)) w := ⟨true, rfl, rfl, fun _ => h⟩

set_option maxHeartbeats 1000000 in
/-- The bound on the total length: whatever it answers, nothing turns; where it answers yes the slice is short. -/
theorem bytes_any (a : Option Addr) (n c : Nat) (xs : List Av) (x1 x2 x3 x4 : Int) (da : Option Addr) (dn dc : Nat) (w : World) (hn : n ≤ maxLen) (hd : dn ≤ maxLen) (h : Row w a n xs) (hx : ∀ i, i < n → (xs.getD i zav).dn ≤ maxLen) :
    Calls Try.prog 5 #[.slice a n c, .int .u32 x1, .int .i64 x2, .int .u8 x3, .int .u32 x4, .slice da dn dc] w (Ans n w) := by
  unfold maxLen at hn hd
  have HX : Hid (∀ i, i < n → (xs.getD i zav).dn ≤ maxLen) := hx
  clear hx
  by_cases h1 : 1048576 < n
  · go_enter Try.func5, Try.ntmps5
    go_wp2
    go_ret
    exact Ans.no
  · by_cases h0 : n = 0
    · subst h0
      go_enter Try.func5, Try.ntmps5
      go_wp2
      refine wp_loop_rounds 1 ?_
      rw [rounds_succ]
      go_wp2
      all_goals (go_ret; first | exact Ans.no | exact Ans.yes (by omega))
    · obtain ⟨b, off, rfl⟩ := h.form (by omega)
      go_enter Try.func5, Try.ntmps5
      go_wp2
      go_loop [13, 14] (fun t i => ∃ (k : Nat) (s : Int), k ≤ n ∧ i = .int .i64 k ∧ 0 ≤ s ∧ s ≤ 1048576 ∧ t = .int .i64 s) (fun _ i => n - (intOf i).toNat)
      case atStart => exact ⟨0, _, Nat.zero_le _, rfl, by omega, by omega, rfl⟩
      case round =>
        obtain ⟨k, s, hk, rfl, hs0, hs1, rfl⟩ := hrel
        by_cases hlt : k < n
        · obtain ⟨x, HXk, hat⟩ := h.spot hlt
          have hdn : x.dn ≤ maxLen := by rw [← HXk.out]; exact HX.out k hlt
          unfold maxLen at hdn
          have hc := hat.c4
          go_wp2
          all_goals first | (go_ret; exact Ans.no) | skip
          go_round
          case rel => exact ⟨k + 1, _, by omega, by go_num, by omega, by omega, rfl⟩
          case measure => simp [intOf]; omega
        · go_wp2
          all_goals (go_ret; first | exact Ans.no | exact Ans.yes (by omega))

set_option maxHeartbeats 1000000 in
/-- The other law's bound on the total length: whatever it answers, nothing turns; where it answers yes the slice is short. -/
theorem bytes8_any (a : Option Addr) (n c : Nat) (xs : List Av) (x1 x2 x3 x4 x5 x6 : Int) (da : Option Addr) (dn dc : Nat) (w : World) (hn : n ≤ maxLen) (hd : dn ≤ maxLen) (h : Row w a n xs) (hx : ∀ i, i < n → (xs.getD i zav).dn ≤ maxLen) :
    Calls Try.prog 11 #[.slice a n c, .int .u32 x1, .int .i64 x2, .int .u32 x3, .int .u32 x4, .int .u8 x5, .int .u32 x6, .slice da dn dc] w (Ans n w) := by
  unfold maxLen at hn hd
  have HX : Hid (∀ i, i < n → (xs.getD i zav).dn ≤ maxLen) := hx
  clear hx
  by_cases h1 : 1048576 < n
  · go_enter Try.func11, Try.ntmps11
    go_wp2
    go_ret
    exact Ans.no
  · by_cases h0 : n = 0
    · subst h0
      go_enter Try.func11, Try.ntmps11
      go_wp2
      refine wp_loop_rounds 1 ?_
      rw [rounds_succ]
      go_wp2
      all_goals (go_ret; first | exact Ans.no | exact Ans.yes (by omega))
    · obtain ⟨b, off, rfl⟩ := h.form (by omega)
      go_enter Try.func11, Try.ntmps11
      go_wp2
      go_loop [17, 18] (fun t i => ∃ (k : Nat) (s : Int), k ≤ n ∧ i = .int .i64 k ∧ 0 ≤ s ∧ s ≤ 1048576 ∧ t = .int .i64 s) (fun _ i => n - (intOf i).toNat)
      case atStart => exact ⟨0, _, Nat.zero_le _, rfl, by omega, by omega, rfl⟩
      case round =>
        obtain ⟨k, s, hk, rfl, hs0, hs1, rfl⟩ := hrel
        by_cases hlt : k < n
        · obtain ⟨x, HXk, hat⟩ := h.spot hlt
          have hdn : x.dn ≤ maxLen := by rw [← HXk.out]; exact HX.out k hlt
          unfold maxLen at hdn
          have hc := hat.c4
          go_wp2
          all_goals first | (go_ret; exact Ans.no) | skip
          go_round
          case rel => exact ⟨k + 1, _, by omega, by go_num, by omega, by omega, rfl⟩
          case measure => simp [intOf]; omega
        · go_wp2
          all_goals (go_ret; first | exact Ans.no | exact Ans.yes (by omega))

set_option maxHeartbeats 1000000 in
/-- The law's own bound on sizes: whatever it answers, nothing turns; where it answers yes the slice is short. -/
theorem size_any (a : Option Addr) (n c : Nat) (xs : List Av) (da : Option Addr) (dn dc : Nat) (w : World) (hn : n ≤ 1048576) (hd : dn ≤ maxLen) (h : Row w a n xs) (hx : ∀ i, i < n → (xs.getD i zav).dn ≤ maxLen) :
    Calls Try.prog 6 #[.slice a n c, .slice da dn dc] w (Ans n w) := by
  unfold maxLen at hd
  have HX : Hid (∀ i, i < n → (xs.getD i zav).dn ≤ maxLen) := hx
  clear hx
  by_cases h1 : 1048576 < dn
  · go_enter Try.func6, Try.ntmps6
    go_wp2
    go_ret
    exact Ans.no
  · by_cases h0 : n = 0
    · subst h0
      go_enter Try.func6, Try.ntmps6
      go_wp2
      refine wp_loop_rounds 1 ?_
      rw [rounds_succ]
      go_wp2
      all_goals (go_ret; first | exact Ans.no | exact Ans.yes (by omega))
    · obtain ⟨b, off, rfl⟩ := h.form (by omega)
      go_enter Try.func6, Try.ntmps6
      go_wp2
      go_loop [5, 6] (fun t i => ∃ (k : Nat) (s : Int), k ≤ n ∧ i = .int .i64 k ∧ 0 ≤ s ∧ s ≤ 1048576 ∧ t = .int .i64 s) (fun _ i => n - (intOf i).toNat)
      case atStart => exact ⟨0, _, Nat.zero_le _, rfl, by omega, by omega, rfl⟩
      case round =>
        obtain ⟨k, s, hk, rfl, hs0, hs1, rfl⟩ := hrel
        by_cases hlt : k < n
        · obtain ⟨x, HXk, hat⟩ := h.spot hlt
          have hdn : x.dn ≤ maxLen := by rw [← HXk.out]; exact HX.out k hlt
          unfold maxLen at hdn
          have hc := hat.c4
          go_wp2
          all_goals first | (go_ret; exact Ans.no) | skip
          go_round
          case rel => exact ⟨k + 1, _, by omega, by go_num, by omega, by omega, rfl⟩
          case measure => simp [intOf]; omega
        · go_wp2
          all_goals (go_ret; first | exact Ans.no | exact Ans.yes (by omega))

end Go.Proofs.Qxb6634833a
