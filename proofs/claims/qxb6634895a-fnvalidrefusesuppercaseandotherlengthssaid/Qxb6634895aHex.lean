/- The forty digits of zzHex20. -/
import Derived.Test.Qxb6634895aUpper
namespace Go.Proofs.Qxb6634895a
open Go.RowKit

theorem hexdig : ∀ (q : Nat) (h : q < 16), hexb (((({ data := #[48, 49, 50, 51, 52, 53, 54, 55, 56, 57, 97, 98, 99, 100, 101, 102] } : ByteArray)[q]'h).toNat : Nat) : Int) = true := by decide
theorem set2_hex {zs : List Int} {k : Nat} {d1 d2 : Int} (hz : zs.length = 40) (hk : k < 20) (H : ∀ j, j < 2 * k → hexb (zs.getD j 0) = true) (h1 : hexb d1 = true) (h2 : hexb d2 = true) (j : Nat) (hj : j < 2 * (k + 1)) : hexb (((zs.set (2 * k) d1).set (2 * k + 1) d2).getD j 0) = true := by
  by_cases e2 : j = 2 * k + 1
  · subst e2
    have : ((zs.set (2 * k) d1).set (2 * k + 1) d2).getD (2 * k + 1) 0 = d2 := by
      rw [List.getD_eq_getElem?_getD, List.getElem?_set_self (by rw [List.length_set]; omega)]; rfl
    rw [this]; exact h2
  · by_cases e1 : j = 2 * k
    · subst e1
      have : ((zs.set (2 * k) d1).set (2 * k + 1) d2).getD (2 * k) 0 = d1 := by
        rw [List.getD_eq_getElem?_getD, List.getElem?_set_ne (by omega), List.getElem?_set_self (by omega)]; rfl
      rw [this]; exact h1
    · have : ((zs.set (2 * k) d1).set (2 * k + 1) d2).getD j 0 = zs.getD j 0 := by
        rw [List.getD_eq_getElem?_getD, List.getElem?_set_ne (by omega), List.getElem?_set_ne (by omega), List.getD_eq_getElem?_getD]
      rw [this]; exact H j (by omega)
theorem hexb_range {z : Int} (h : hexb z = true) : 0 ≤ z ∧ z < 256 := by
  unfold hexb at h
  simp at h
  omega
theorem valid_hex {zs : List Int} (hz : zs.length = 40) (H : ∀ j, j < 40 → hexb (zs.getD j 0) = true) : valid (strOfNums zs) = true := by
  have all : ∀ x ∈ zs, hexb x = true := fun x hx => by
    obtain ⟨j, hj, e⟩ := List.getElem_of_mem hx
    have := H j (by omega)
    have e2 : zs.getD j 0 = x := by rw [← e]; simp [List.getD, hj]
    rwa [e2] at this
  unfold valid
  rw [nums_strOf zs (fun x hx => hexb_range (all x hx)), strOfNums_size, hz, List.all_eq_true.2 all]
  rfl

set_option maxRecDepth 100000 in
set_option maxHeartbeats 4000000 in
theorem hex_any (s : ByteArray) (w : World) (hs : s.size ≤ maxLen) :
    Calls Try.prog 6 #[.string s] w fun e w' => ∃ v, e = .returned (.string v) ∧ valid v = true ∧ Below w.heap.size w w' := by
  have hs' : s.size ≤ 9223372036854775807 := hs
  go_enter Try.func6, Try.ntmps6
  go_wp2
  have hB1 : Blk (w.alloc (.cells ((List.replicate 40 (0 : Int)).map (Value.int .u8)).toArray 25)) w.heap.size 25 (List.replicate 40 0) := heap_alloc_new w _
  have hb1 : Below w.heap.size w (w.alloc (.cells ((List.replicate 40 (0 : Int)).map (Value.int .u8)).toArray 25)) := (Below.refl _ _).alloc (Nat.le_refl _) _
  change Code.wp _ _ _ _ (w.alloc (.cells ((List.replicate 40 (0 : Int)).map (Value.int .u8)).toArray 25))
  generalize w.alloc (.cells ((List.replicate 40 (0 : Int)).map (Value.int .u8)).toArray 25) = w1 at hB1 hb1
  generalize hg : w.heap.size = g at hB1 hb1
  go_loopw [4] (fun i wr => ∃ (k : Nat) (zs : List Int), k ≤ 20 ∧ i = .int .i64 k ∧ Hid (zs.length = 40) ∧ Hid (∀ j, j < 2 * k → hexb (zs.getD j 0) = true) ∧ Blk wr g 25 zs ∧ Below g w wr) (fun i _ => 20 - (intOf i).toNat)
  case atStart => exact ⟨0, _, Nat.zero_le _, rfl, by simp [Hid], fun j hj => absurd hj (by omega), hB1, hb1⟩
  case round =>
    clear hB1 hb1
    obtain ⟨k, zs, hk, rfl, HZ, HH, hB, hb⟩ := hrel
    by_cases hlt : k < 20
    · obtain ⟨q0, hq0⟩ := hB.cell (i := 2 * k) (by rw [HZ.out]; omega)
      obtain ⟨q1, hq1⟩ := hB.cell (i := 2 * k + 1) (by rw [HZ.out]; omega)
      have hf0 := hB.free (2 * k)
      have hf1 := hB.free (2 * k + 1)
      have hi0 : (0 : Int) ≤ (k : Int) := by omega
      have hi1 : (k : Int) < 20 := by omega
      by_cases hsz : k < s.size
      · obtain ⟨z, hz, HE⟩ : ∃ z, Hid ((nums s).getD k 0 = z) ∧ ((s[k]'hsz).toNat : Int) = z := ⟨_, rfl, nums_at s k hsz⟩
        have hr := nums_getD s k
        rw [hz.out] at hr
        obtain ⟨hr0, hr1⟩ := hr
        go_wp2
        refine ⟨⟨k + 1, _, by omega, by go_num, ?_, ?_, (hB.set _ _).set _ _, (hb.setCell (Nat.le_refl _) _).setCell (Nat.le_refl _) _⟩, by simp [intOf]; omega⟩
        · unfold Hid; rw [List.length_set, List.length_set]; exact HZ.out
        · exact set2_hex HZ.out hlt HH.out (hexdig _ _) (hexdig _ _)
      · go_wp2
        refine ⟨⟨k + 1, _, by omega, by go_num, ?_, ?_, (hB.set _ _).set _ _, (hb.setCell (Nat.le_refl _) _).setCell (Nat.le_refl _) _⟩, by simp [intOf]; omega⟩
        · unfold Hid; rw [List.length_set, List.length_set]; exact HZ.out
        · exact set2_hex HZ.out hlt HH.out (hexdig _ _) (hexdig _ _)
    · obtain rfl : k = 20 := by omega
      have ht := hB.text (by exact HZ.out) 40
      go_wp2
      go_ret
      refine ⟨_, rfl, valid_hex HZ.out HH.out, ?_⟩
      rw [hg]
      exact hb

end Go.Proofs.Qxb6634895a
