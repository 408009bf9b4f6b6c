/- FindAVP, and the test that two AVPs are the same. -/
import Derived.Test.Qxb6634833aIns
namespace Go.Proofs.Qxb6634833a
open Go.RowKit

/-- FindAVP's test. -/
def hit (code : Int) (x : Av) : Bool := x.code == code && x.vendor == 0

/-- What FindAVP answers. -/
def Found (xs : List Av) (code : Int) (r : Ending) : Prop :=
  (∃ y, xs.find? (hit code) = some y ∧ r = .returned (.tuple #[.agg #[.int .u32 y.code, .int .u8 y.flags, .int .u32 y.length, .int .u32 y.vendor, .slice y.da y.dn y.dc], .bool true])) ∨
  (xs.find? (hit code) = none ∧ r = .returned (.tuple #[.agg #[.int .u32 0, .int .u8 0, .int .u32 0, .int .u32 0, .slice none 0 0], .bool false]))

theorem find_at (p : Av → Bool) (xs : List Av) (k : Nat) (x : Av) (e : xs.getD k zav = x) (hk : k < xs.length) (h : (xs.take k).find? p = none) (hx : p x = true) : xs.find? p = some x := by
  have e2 : xs[k] = x := by rw [← e]; simp [List.getD, hk]
  rw [← List.take_append_drop k xs, List.find?_append, h, List.drop_eq_getElem_cons hk, e2]
  simp [hx]
theorem find_next (p : Av → Bool) (xs : List Av) (k : Nat) (x : Av) (e : xs.getD k zav = x) (hk : k < xs.length) (h : (xs.take k).find? p = none) (hx : p x = false) : (xs.take (k + 1)).find? p = none := by
  rw [take_snoc xs k hk, List.find?_append, h, e]
  simp [hx]

set_option maxRecDepth 100000 in
set_option maxHeartbeats 4000000 in
theorem find_any (b n c : Nat) (code : Int) (xs : List Av) (w : World) (hl : n ≤ 1048600) (h : Row w (some ⟨b, 0, none⟩) n xs) :
    Calls Try.prog 9 #[.slice (some ⟨b, 0, none⟩) n c, .int .u32 code] w fun r w' => Found xs code r ∧ Below w.heap.size w w' := by
  have hz := h.len
  have hA := alloc_blk w zav
  have hA1 : Below w.heap.size w (w.alloc (.cells #[.int .u32 0, .int .u8 0, .int .u32 0, .int .u32 0, .slice none 0 0] 28)) := (Below.refl _ _).alloc (Nat.le_refl _) _
  go_enter Try.func9, Try.ntmps9
  go_wp2
  have hN : Hid ((xs.take 0).find? (hit code) = none) := by simp [Hid]
  go_loopw [10] (fun q wr => ∃ k : Nat, k ≤ n ∧ q = .int .i64 k ∧ Hid ((xs.take k).find? (hit code) = none) ∧ Blk wr w.heap.size [zav] ∧ Below w.heap.size w wr) (fun q _ => n - (intOf q).toNat)
  case atStart => exact ⟨0, Nat.zero_le _, rfl, hN, hA, hA1⟩
  case round =>
    clear hA hA1 hN
    obtain ⟨k, hk, rfl, hN, hB, hb⟩ := hrel
    by_cases hlt : k < n
    · obtain ⟨x, HX, hat⟩ := (h.later hb).spot0 (k := k) hlt
      obtain ⟨s0, s1, s2, s3, s4⟩ := hat
      have hg : w.heap.size < wr.heap.size := hB.lt
      have hi0 : (0 : Int) ≤ (k : Int) := by omega
      have hi1 : (k : Int) < (n : Int) := by omega
      have hbw : b < wr.heap.size := block_lt_of_cell s0
      obtain ⟨d0, d1, d2, d3, d4⟩ := hB.one
      have f0 := hB.free 0
      have f1 := hB.free 1
      have f2 := hB.free 2
      have f3 := hB.free 3
      have f4 := hB.free 4
      by_cases hc : x.code = code
      · by_cases hv : x.vendor = 0
        · have hP : Blk (put5 wr w.heap.size 0 x) w.heap.size [x] := hB.put (k := 0) (by simp) x
          have hbP := put5_below hb (Nat.le_refl _) 0 x
          have hP2 := (hP.below ((Below.refl _ _).alloc (Nat.le_refl _) (.cells #[.int .u32 x.code, .int .u8 x.flags, .int .u32 x.length, .int .u32 x.vendor, .slice x.da x.dn x.dc] 28)) hP.lt).one
          have hbQ := hbP.alloc (Nat.le_trans (Nat.le_of_lt hg) (by simp [put5])) (.cells #[.int .u32 x.code, .int .u8 x.flags, .int .u32 x.length, .int .u32 x.vendor, .slice x.da x.dn x.dc] 28)
          go_wp2
          unfold put5 at hP2 hbQ
          simp only [Nat.zero_mul, Nat.zero_add, hc, hv] at hP2 hbQ
          obtain ⟨p0, p1, p2, p3, p4⟩ := hP2
          rw [hc] at p0
          rw [hv] at p3
          refine bodyPost_ret (v := .tuple #[.agg #[.int .u32 code, .int .u8 x.flags, .int .u32 x.length, .int .u32 0, .slice x.da x.dn x.dc], .bool true]) (by simp [results, Try.results9, go_sem, p0, p1, p2, p3, p4]) rfl ⟨Or.inl ⟨x, find_at _ _ k _ HX.out (by omega) hN.out (by simp [hit, hc, hv]), by rw [hc, hv]⟩, hbQ⟩
        · go_wp2
          refine ⟨⟨k + 1, by omega, by go_num, find_next _ _ k _ HX.out (by omega) hN.out (by simp [hit, hv]), hB.below ((Below.refl _ _).alloc (Nat.le_refl _) _) hg, hb.alloc (Nat.le_of_lt hg) _⟩, ?_⟩
          simp [intOf]; omega
      · go_wp2
        refine ⟨⟨k + 1, by omega, by go_num, find_next _ _ k _ HX.out (by omega) hN.out (by simp [hit, hc]), hB.below ((Below.refl _ _).alloc (Nat.le_refl _) _) hg, hb.alloc (Nat.le_of_lt hg) _⟩, ?_⟩
        simp [intOf]; omega
    · obtain rfl : k = n := by omega
      obtain ⟨d0, d1, d2, d3, d4⟩ := hB.one
      have f0 := hB.free 0
      have f1 := hB.free 1
      have f2 := hB.free 2
      have f3 := hB.free 3
      have f4 := hB.free 4
      have hP : Blk (put5 wr w.heap.size 0 zav) w.heap.size [zav] := hB.put (k := 0) (by simp) zav
      have hbP := put5_below hb (Nat.le_refl _) 0 zav
      go_wp2
      unfold put5 at hP hbP
      obtain ⟨p0, p1, p2, p3, p4⟩ := hP.one
      simp only [Nat.zero_mul, Nat.zero_add, zav] at p0 p1 p2 p3 p4 hbP
      refine bodyPost_ret (v := .tuple #[.agg #[.int .u32 0, .int .u8 0, .int .u32 0, .int .u32 0, .slice none 0 0], .bool false]) (by simp [results, Try.results9, go_sem, p0, p1, p2, p3, p4]) rfl ⟨Or.inr ⟨?_, rfl⟩, hbP⟩
      have := hN.out
      rwa [List.take_of_length_le (by omega)] at this

end Go.Proofs.Qxb6634833a
