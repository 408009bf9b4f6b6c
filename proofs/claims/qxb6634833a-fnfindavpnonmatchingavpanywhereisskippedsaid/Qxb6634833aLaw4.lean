/- The law on an AVP that does not match: the walk. -/
import Derived.Test.Qxb6634833aLaw4b
import Derived.Test.Qxb6634833aLaw4c
import Derived.Test.Qxb6634833aLaw4d
namespace Go.Proofs.Qxb6634833a
open Go.RowKit

set_option maxRecDepth 100000 in
set_option maxHeartbeats 4000000 in
theorem law4_out (a : Option Addr) (n c : Nat) (xs : List Av) (code i : Int) (dco dve fl len : Int) (da : Option Addr) (dn dc : Nat) (w : World) (hn : n ≤ maxLen) (hm : dn ≤ maxLen) (h : Row w a n xs) (hx : ∀ j, j < n → Dat w (xs.getD j zav).da (xs.getD j zav).dn) (hi : i < 0 ∨ (n : Int) < i) :
    Calls Try.prog 4 #[.slice a n c, .int .u32 code, .int .i64 i, .int .u32 dco, .int .u32 dve, .int .u8 fl, .int .u32 len, .slice da dn dc] w fun r w' => r = .returned (.bool true) ∧ Below w.heap.size w w' := by
  have HXM : Hid (∀ j, j < n → (xs.getD j zav).dn ≤ maxLen) := fun j hj => (hx j hj).1
  clear hx
  have hn' : n ≤ 9223372036854775807 := hn
  rcases hi with hi | hi
  all_goals
    go_enter Try.func4, Try.ntmps4
    go_wp2_with (first | (go_at_call 11; refine (bytes8_any a n c xs code i dco dve fl len da dn dc w hn hm h HXM.out).mono ?_; rintro e w' hA; rcases hA.cases with ⟨rfl, rfl⟩ | ⟨rfl, rfl, hv⟩) | (go_at_call 6; refine (size_any a n c xs da dn dc w hv hm h HXM.out).mono ?_; rintro e w' hA; rcases hA.cases with ⟨rfl, rfl⟩ | ⟨rfl, rfl, hv2⟩))
    all_goals (go_ret; exact ⟨rfl, Below.refl _ _⟩)

set_option maxRecDepth 100000 in
set_option maxHeartbeats 4000000 in
theorem law4_match (a : Option Addr) (n c : Nat) (xs : List Av) (code : Int) (k : Nat) (fl len : Int) (da : Option Addr) (dn dc : Nat) (w : World) (hn : n ≤ maxLen) (hm : dn ≤ maxLen) (h : Row w a n xs) (hx : ∀ j, j < n → Dat w (xs.getD j zav).da (xs.getD j zav).dn) (hk : k ≤ n) :
    Calls Try.prog 4 #[.slice a n c, .int .u32 code, .int .i64 k, .int .u32 code, .int .u32 0, .int .u8 fl, .int .u32 len, .slice da dn dc] w fun r w' => r = .returned (.bool true) ∧ Below w.heap.size w w' := by
  have HXM : Hid (∀ j, j < n → (xs.getD j zav).dn ≤ maxLen) := fun j hj => (hx j hj).1
  clear hx
  have hn' : n ≤ 9223372036854775807 := hn
  go_enter Try.func4, Try.ntmps4
  go_wp2_with (first | (go_at_call 11; refine (bytes8_any a n c xs code k code 0 fl len da dn dc w hn hm h HXM.out).mono ?_; rintro e w' hA; rcases hA.cases with ⟨rfl, rfl⟩ | ⟨rfl, rfl, hv⟩) | (go_at_call 6; refine (size_any a n c xs da dn dc w hv hm h HXM.out).mono ?_; rintro e w' hA; rcases hA.cases with ⟨rfl, rfl⟩ | ⟨rfl, rfl, hv2⟩))
  all_goals (go_ret; exact ⟨rfl, Below.refl _ _⟩)

/-- The law's own function answers true, whatever it is given. -/
theorem law4 (a : Option Addr) (n c : Nat) (xs : List Av) (code i : Int) (dco dve fl len : Int) (da : Option Addr) (dn dc : Nat) (w : World) (hn : n ≤ maxLen) (hm : dn ≤ maxLen) (h : Row w a n xs) (hx : ∀ j, j < n → Dat w (xs.getD j zav).da (xs.getD j zav).dn) (hd : Dat w da dn) :
    Calls Try.prog 4 #[.slice a n c, .int .u32 code, .int .i64 i, .int .u32 dco, .int .u32 dve, .int .u8 fl, .int .u32 len, .slice da dn dc] w fun r w' => r = .returned (.bool true) ∧ Below w.heap.size w w' := by
  by_cases hi : i < 0 ∨ (n : Int) < i
  · exact law4_out a n c xs code i dco dve fl len da dn dc w hn hm h hx hi
  · obtain ⟨k, rfl⟩ : ∃ k : Nat, i = (k : Int) := ⟨i.toNat, by omega⟩
    have hk : k ≤ n := by omega
    by_cases hdk : dco = code
    · by_cases hdv : dve = 0
      · subst hdk hdv
        exact law4_match a n c xs dco k fl len da dn dc w hn hm h hx hk
      · subst hdk
        cases hf : xs.find? (hit dco) with
        | none => exact law4_none_v a n c xs dco k dve fl len da dn dc w hn hm h hx hd hk hf hdv
        | some y => exact law4_some_v a n c xs dco k dve fl len da dn dc w hn hm h hx hd hk y hf hdv
    · cases hf : xs.find? (hit code) with
      | none => exact law4_none_c a n c xs code k dco dve fl len da dn dc w hn hm h hx hd hk hf hdk
      | some y => exact law4_some_c a n c xs code k dco dve fl len da dn dc w hn hm h hx hd hk y hf hdk

end Go.Proofs.Qxb6634833a
