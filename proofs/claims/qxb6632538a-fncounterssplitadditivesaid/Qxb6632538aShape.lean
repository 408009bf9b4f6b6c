/- The shape of fresh counters, as the law's own test asks it. -/
import Derived.Test.Qxb6632538aLeaf2
import Derived.Maps.OwnSet
namespace Go.Proofs.Qxb6632538a
open Go.RowKit Go.Maps

theorem law9 : Keyed Try.prog 9 := string_keyed Try.underlying9
theorem zero2 (w : World) : (zeroValue 2).run Try.prog w = .ok (.int .i64 0) w := by kernel_rfl
theorem under28 : Try.prog.underlying 28 = some (.map 9 2) := by kernel_rfl

/-- What a name reads as. -/
def kl (s : ByteArray) : Lit := .string s.data.toList
def i64 (n : Int) : DataW Unit := .lit (.int .i64 n)

theorem key_of (s : ByteArray) (hs : s.size ≤ maxLen) : keyOf Try.prog 9 (.string s) = some (kl s) := WideMaps.keyOf_string_mk Try.underlying9 hs
theorem zname_size (i : Nat) : (zname i).size ≤ maxLen := by
  unfold zname maxLen
  split <;> decide

/-- A map that the call owns: string keys, int64 elements. -/
def Owns (w : World) (B n : Nat) (D : DataW Unit) : Prop := w.ownsMap Try.prog 9 (plainElem Try.prog 2) B n D

/-- The counters of a job before any task has run. -/
structure Fresh (D : DataW Unit) (m r : Int) : Prop where
  size : Maps.size D = 13
  has : ∀ i, i < 13 → Maps.has D (kl (zname i)) = true
  other : ∀ k, (∀ j, j < 13 → k ≠ kl (zname j)) → Maps.has D k = false
  zero : ∀ i, i < 11 → D.atKey (kl (zname i)) (i64 0) = i64 0
  map : D.atKey (kl (zname 11)) (i64 0) = i64 m
  reduce : D.atKey (kl (zname 12)) (i64 0) = i64 r

section
variable {w : World} {ops : Array Oper} {rest : List Oper} {o : Oper} {a : Act} {Q : Exit → Act → World → Prop}
/-- 'v, ok := m[k]' where the key is there and its element is known. -/
theorem wpList_known_ok (hg : o.guard = none) (m x : Operand) (hop : o.op = Op.lookup 28 m x true) (B n : Nat) (D : DataW Unit) (hm : a.eval m = .map (some B)) (hown : Owns w B n D) (s : ByteArray) (hx : a.eval x = .string s) (hs : s.size ≤ maxLen)
    (c : Int) (hat : D.atKey (kl s) (i64 0) = i64 c) (hhas : Maps.has D (kl s) = true)
    (hK : wpList Try.prog ops Q rest (a.put o.dst (.tuple #[.int .i64 c, .bool true])) w) : wpList Try.prog ops Q (o :: rest) a w := by
  refine wpList_lookup_own_ok_int w hg m x 28 hop 9 2 .i64 law9 under28 Try.underlying2 (zero2 w) B n D hm hown _ (kl s) hx (key_of s hs) ?_
  intro c' hat' _
  have e : c' = c := by
    have e' := hat'.symm.trans hat
    simp only [i64, DataW.lit.injEq, Lit.int.injEq, true_and] at e'
    exact e'
  subst e
  rw [hhas]
  exact hK
theorem wpList_len_known (hg : o.guard = none) (m : Operand) (hop : o.op = Op.call { callee := Callee.builtin Builtin.len, args := #[m], argTypes := #[28] }) (B n : Nat) (D : DataW Unit) (hm : a.eval m = .map (some B)) (hown : Owns w B n D)
    (c : Nat) (hc : Maps.size D = c) (hK : wpList Try.prog ops Q rest (a.put o.dst (.int .i64 c)) w) : wpList Try.prog ops Q (o :: rest) a w := by
  refine wpList_len_own w hg m 28 hop 9 2 under28 _ B n D hm hown ?_
  rw [hc]
  exact hK
end

set_option maxHeartbeats 1000000 in
theorem shape_any (B n : Nat) (D : DataW Unit) (m r : Int) (w : World) (ho : Owns w B n D) (hf : Fresh D m r) :
    Calls Try.prog 10 #[.map (some B), .int .i64 m, .int .i64 r] w fun e w' => e = .returned (.bool true) ∧ w' = w := by
  go_enter Try.func10, Try.ntmps10
  go_wp2_with (at_len; refine wpList_len_known rfl _ rfl B n D rfl ho 13 hf.size ?_)
  go_loop [7] (fun i => ∃ k : Nat, k ≤ 11 ∧ i = .int .i64 k) (fun i => 11 - (intOf i).toNat)
  case atStart => exact ⟨0, Nat.zero_le _, rfl⟩
  case round =>
    obtain ⟨k, hk, rfl⟩ := hrel
    by_cases hlt : k < 11
    · go_wp2_with (first | (go_at_call 13; refine (name_any k _ hlt).mono ?_; rintro e w' ⟨rfl, rfl⟩) | (at_lookup; refine wpList_known_ok rfl _ _ rfl B n D rfl ho (zname k) rfl (zname_size k) 0 (hf.zero k hlt) (hf.has k (by omega)) ?_))
      go_round
      case rel => exact ⟨k + 1, by omega, by go_num⟩
      case measure => simp [intOf]; omega
    · obtain rfl : k = 11 := by omega
      go_wp2_with (at_lookup; first | refine wpList_known_ok rfl _ _ rfl B n D rfl ho (zname 11) rfl (zname_size 11) m hf.map (hf.has 11 (by omega)) ?_ | refine wpList_known_ok rfl _ _ rfl B n D rfl ho (zname 12) rfl (zname_size 12) r hf.reduce (hf.has 12 (by omega)) ?_)
      go_ret
      exact ⟨rfl, rfl⟩

end Go.Proofs.Qxb6632538a
