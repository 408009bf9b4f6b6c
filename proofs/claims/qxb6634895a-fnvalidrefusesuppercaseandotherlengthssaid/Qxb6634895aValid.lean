/- Valid, and the other functions that only read. -/
import Derived.Test.Qxb6634895aRows
import Derived.Test.Qxb6634895aPlain
import Derived.WalkKit
import Derived.ProofKit
import Derived.Below
import Derived.WalkSpells
import Derived.Laws.IdiomStrings
namespace Go.Proofs.Qxb6634895a
open Go.RowKit

theorem ret_bool {a b : Bool} (h : a = b) : Ending.returned (.bool a) = .returned (.bool b) := by rw [h]

set_option maxHeartbeats 1000000 in
theorem bytes5_any (s : ByteArray) (k : Int) (w : World) (hs : s.size ≤ maxLen) :
    Calls Try.prog 5 #[.string s, .int .i64 k] w fun e w' => e = .returned (.bool (decide (s.size ≤ 1048576))) ∧ w = w' := by
  unfold maxLen at hs
  by_cases h : s.size ≤ 1048576
  · go_enter Try.func5, Try.ntmps5
    go_wp2
    go_ret
    exact ⟨ret_bool (by simp [h]), rfl⟩
  · go_enter Try.func5, Try.ntmps5
    go_wp2
    go_ret
    exact ⟨ret_bool (by simp [h]), rfl⟩

set_option maxHeartbeats 1000000 in
theorem bytes8_any (s : ByteArray) (w : World) (hs : s.size ≤ maxLen) :
    Calls Try.prog 8 #[.string s] w fun e w' => e = .returned (.bool (decide (s.size ≤ 1048576))) ∧ w = w' := by
  unfold maxLen at hs
  by_cases h : s.size ≤ 1048576
  · go_enter Try.func8, Try.ntmps8
    go_wp2
    go_ret
    exact ⟨ret_bool (by simp [h]), rfl⟩
  · go_enter Try.func8, Try.ntmps8
    go_wp2
    go_ret
    exact ⟨ret_bool (by simp [h]), rfl⟩

/-- What the making of a byte slice out of a string leaves. -/
theorem conv_any (s : ByteArray) (w : World) : ∃ cap W, (convert 9 27 (.string s)).run Try.prog w = .ok (.slice (some ⟨w.heap.size, 0, none⟩) s.size cap) W ∧ Below w.heap.size w W ∧ ∀ k, k < s.size → W.cell? ⟨w.heap.size, k, none⟩ = some (.int .u8 ((nums s).getD k 0)) := by
  refine ⟨_, _, run_bytes_of_string w 9 27 5 s Try.underlying9 Try.underlying27 Try.underlying5, ?_, fun k hk => ?_⟩
  · exact ((Below.refl _ _).drew).alloc (Nat.le_refl _) _
  · have e := World.cell?_alloc_mark w.drew (bytesRow s (grownCap w s.size 0 5)) 5 ((bytesRow s (grownCap w s.size 0 5)).size, (bytesRow s (grownCap w s.size 0 5)).size + 1) k
    have e2 := bytesRow_at s (grownCap w s.size 0 5) k hk
    rw [nums_at s k hk] at e2
    exact e.trans e2

theorem all_take {p : Int → Bool} {l : List Int} {k : Nat} (hk : k < l.length) : (l.take (k + 1)).all p = ((l.take k).all p && p (l.getD k 0)) := by
  rw [List.take_succ_eq_append_getElem hk, List.all_append]
  simp [List.getD, hk]
theorem any_take {p : Int → Bool} {l : List Int} {k : Nat} (hk : k < l.length) : (l.take (k + 1)).any p = ((l.take k).any p || p (l.getD k 0)) := by
  rw [List.take_succ_eq_append_getElem hk, List.any_append]
  simp [List.getD, hk]
theorem all_false {p : Int → Bool} {l : List Int} {k : Nat} (hk : k < l.length) (h : p (l.getD k 0) = false) : l.all p = false := by
  rw [List.all_eq_false]
  refine ⟨l[k], List.getElem_mem hk, ?_⟩
  have : l.getD k 0 = l[k] := by simp [List.getD, hk]
  rw [← this, h]
  simp
theorem any_true {p : Int → Bool} {l : List Int} {k : Nat} (hk : k < l.length) (h : p (l.getD k 0) = true) : l.any p = true := by
  rw [List.any_eq_true]
  refine ⟨l[k], List.getElem_mem hk, ?_⟩
  have : l.getD k 0 = l[k] := by simp [List.getD, hk]
  rw [← this, h]

set_option maxHeartbeats 2000000 in
theorem valid_any (s : ByteArray) (w : World) (hs : s.size ≤ maxLen) :
    Calls Try.prog 7 #[.string s] w fun e w' => e = .returned (.bool (valid s)) ∧ Below w.heap.size w w' := by
  have hs' : s.size ≤ 9223372036854775807 := hs
  have hl := nums_length s
  by_cases h : s.size = 40
  · obtain ⟨cap, W, hconv, hb, hcell⟩ := conv_any s w
    have HC : Hid (∀ k, k < s.size → W.cell? ⟨w.heap.size, k, none⟩ = some (.int .u8 ((nums s).getD k 0))) := hcell
    clear hcell
    have HL : Hid ((nums s).length = s.size) := hl
    clear hl
    rw [h] at hconv
    go_enter Try.func7, Try.ntmps7
    go_wp2
    go_loop [11] (fun i => ∃ k : Nat, k ≤ 40 ∧ i = .int .i64 k ∧ Hid (((nums s).take k).all hexb = true)) (fun i => 40 - (intOf i).toNat)
    case atStart => exact ⟨0, Nat.zero_le _, rfl, by simp [Hid]⟩
    case round =>
      obtain ⟨k, hk, rfl, HA⟩ := hrel
      by_cases hlt : k < 40
      · obtain ⟨z, hz, hc⟩ : ∃ z, Hid ((nums s).getD k 0 = z) ∧ W.cell? ⟨w.heap.size, k, none⟩ = some (.int .u8 z) := ⟨_, rfl, HC.out k (by omega)⟩
        have hi0 : (0 : Int) ≤ (k : Int) := by omega
        have hi1 : (k : Int) < 40 := by omega
        rcases (by omega : z < 48 ∨ (48 ≤ z ∧ z ≤ 57) ∨ (57 < z ∧ z < 97) ∨ (97 ≤ z ∧ z ≤ 102) ∨ 102 < z) with g | ⟨g, g'⟩ | ⟨g, g'⟩ | ⟨g, g'⟩ | g
        all_goals go_wp2
        all_goals first
          | (go_ret
             refine ⟨ret_bool ?_, hb⟩
             unfold valid
             rw [all_false (k := k) (by rw [HL.out]; omega) (by rw [hz.out]; unfold hexb; simp; omega)]
             simp)
          | (refine ⟨⟨k + 1, by omega, by go_num, ?_⟩, by simp [intOf]; omega⟩
             unfold Hid
             rw [all_take (by rw [HL.out]; omega), HA.out, hz.out]
             unfold hexb
             simp
             omega)
      · obtain rfl : k = 40 := by omega
        go_wp2
        go_ret
        refine ⟨ret_bool ?_, hb⟩
        unfold valid
        have := HA.out
        rw [List.take_of_length_le (by rw [HL.out]; omega)] at this
        rw [this]
        simp [h]
  · go_enter Try.func7, Try.ntmps7
    go_wp2
    go_ret
    exact ⟨ret_bool (by rw [valid_other h]), Below.refl _ _⟩

set_option maxHeartbeats 2000000 in
theorem low_any (s : ByteArray) (w : World) (hs : s.size ≤ maxLen) :
    Calls Try.prog 10 #[.string s] w fun e w' => e = .returned (.bool (hasLower s)) ∧ w = w' := by
  unfold maxLen at hs
  have HL : Hid ((nums s).length = s.size) := nums_length s
  go_enter Try.func10, Try.ntmps10
  go_wp2
  go_loop [3] (fun i => ∃ k : Nat, k ≤ s.size ∧ i = .int .i64 k ∧ Hid (((nums s).take k).any lowb = false)) (fun i => s.size - (intOf i).toNat)
  case atStart => exact ⟨0, Nat.zero_le _, rfl, by simp [Hid]⟩
  case round =>
    obtain ⟨k, hk, rfl, HA⟩ := hrel
    by_cases hlt : k < s.size
    · have hi0 : (0 : Int) ≤ (k : Int) := by omega
      have hi1 : (k : Int) < (s.size : Int) := by omega
      obtain ⟨z, hz, HE⟩ : ∃ z, Hid ((nums s).getD k 0 = z) ∧ Hid (((s[k]'hlt).toNat : Int) = z) := ⟨_, rfl, nums_at s k hlt⟩
      go_wp2
      all_goals have he := HE.out
      all_goals first
        | (go_ret
           refine ⟨ret_bool ?_, rfl⟩
           unfold hasLower
           rw [any_true (k := k) (by rw [HL.out]; omega) (by rw [hz.out]; unfold lowb; simp; omega)])
        | (refine ⟨⟨k + 1, by omega, by go_num, ?_⟩, by simp [intOf]; omega⟩
           unfold Hid
           rw [any_take (by rw [HL.out]; omega), HA.out, hz.out]
           unfold lowb
           simp
           omega)
    · obtain rfl : k = s.size := by omega
      go_wp2
      go_ret
      refine ⟨ret_bool ?_, rfl⟩
      have := HA.out
      rw [List.take_of_length_le (by rw [HL.out]; omega)] at this
      unfold hasLower
      rw [this]

end Go.Proofs.Qxb6634895a
