/- Putting an AVP into a row. -/
import Derived.Test.Qxb6634833aWire
import Derived.BigRegion
namespace Go.Proofs.Qxb6634833a
open Go.RowKit

theorem alloc_blk (w : World) (x : Av) : Blk (w.alloc (.cells #[.int .u32 x.code, .int .u8 x.flags, .int .u32 x.length, .int .u32 x.vendor, .slice x.da x.dn x.dc] 28)) w.heap.size [x] := by
  refine ⟨_, heap_alloc_new w _, rfl, fun i hi f hf => ?_⟩
  obtain rfl : i = 0 := by simp at hi; omega
  match f, hf with
  | 0, _ => rfl
  | 1, _ => rfl
  | 2, _ => rfl
  | 3, _ => rfl
  | 4, _ => rfl

/-- The cells of a row of one. -/
structure One (w : World) (g : Nat) (x : Av) : Prop where
  c0 : w.cell? ⟨g, 0, none⟩ = some (.int .u32 x.code)
  c1 : w.cell? ⟨g, 1, none⟩ = some (.int .u8 x.flags)
  c2 : w.cell? ⟨g, 2, none⟩ = some (.int .u32 x.length)
  c3 : w.cell? ⟨g, 3, none⟩ = some (.int .u32 x.vendor)
  c4 : w.cell? ⟨g, 4, none⟩ = some (.slice x.da x.dn x.dc)
theorem Blk.one {w : World} {g : Nat} {x : Av} (h : Blk w g [x]) : One w g x := by
  have k := h.at5 (i := 0) (by simp)
  exact ⟨k.c0, k.c1, k.c2, k.c3, k.c4⟩

theorem set_next' (xs : List Av) (n k : Nat) (hk : k < n) (hz : xs.length = n) : (xs.take k ++ List.replicate (n + 1 - k) zav).set k (xs.getD k zav) = xs.take (k + 1) ++ List.replicate (n + 1 - (k + 1)) zav := by
  rw [take_snoc xs k (by omega)]
  have e : n + 1 - k = (n + 1 - (k + 1)) + 1 := by omega
  rw [e, List.replicate_succ, List.set_append_right _ _ (by simp; omega)]
  have : k - (xs.take k).length = 0 := by simp; omega
  rw [this]
  simp
theorem set_mid (xs : List Av) (n i : Nat) (e : Av) (hi : i ≤ n) (hz : xs.length = n) : (xs.take i ++ List.replicate (n + 1 - i) zav).set i e = (xs.take i ++ e :: (xs.take i).drop i) ++ List.replicate (n - i) zav := by
  have e1 : n + 1 - i = (n - i) + 1 := by omega
  rw [e1, List.replicate_succ, List.set_append_right _ _ (by simp; omega)]
  have : i - (xs.take i).length = 0 := by simp; omega
  rw [this]
  have : (xs.take i).drop i = [] := by simp
  rw [this]
  simp
theorem set_after (xs : List Av) (n i k : Nat) (e : Av) (hi : i ≤ k) (hk : k < n) (hz : xs.length = n) : ((xs.take i ++ e :: (xs.take k).drop i) ++ List.replicate (n - k) zav).set (k + 1) (xs.getD k zav) = (xs.take i ++ e :: (xs.take (k + 1)).drop i) ++ List.replicate (n - (k + 1)) zav := by
  have e1 : n - k = (n - (k + 1)) + 1 := by omega
  have hl : (xs.take i ++ e :: (xs.take k).drop i).length = k + 1 := by simp; omega
  rw [e1, List.replicate_succ, List.set_append_right _ _ (by omega), hl, Nat.sub_self, List.set_cons_zero, take_snoc xs k (by omega), List.drop_append_of_le_length (by simp; omega)]
  simp

set_option maxRecDepth 100000 in
set_option maxHeartbeats 4000000 in
theorem insert_any (b n c i : Nat) (xs : List Av) (e : Av) (w : World) (hl : n ≤ 1048600) (hi : i ≤ n) (h : Row w (some ⟨b, 0, none⟩) n xs) :
    Calls Try.prog 8 #[.slice (some ⟨b, 0, none⟩) n c, .int .i64 i, .agg #[.int .u32 e.code, .int .u8 e.flags, .int .u32 e.length, .int .u32 e.vendor, .slice e.da e.dn e.dc]] w fun r w' => ∃ g, r = .returned (.slice (some ⟨g, 0, none⟩) ((n + 1 : Nat)) (n + 1)) ∧ Row w' (some ⟨g, 0, none⟩) (n + 1) (insertAt xs i e) ∧ Below w.heap.size w w' := by
  have hz := h.len
  have hA := alloc_blk w e
  have hA1 : Below w.heap.size w (w.alloc (.cells #[.int .u32 e.code, .int .u8 e.flags, .int .u32 e.length, .int .u32 e.vendor, .slice e.da e.dn e.dc] 28)) := (Below.refl _ _).alloc (Nat.le_refl _) _
  have h1 := h.later hA1
  generalize hw1 : (w.alloc (.cells #[.int .u32 e.code, .int .u8 e.flags, .int .u32 e.length, .int .u32 e.vendor, .slice e.da e.dn e.dc] 28)) = w1 at hA hA1 h1
  have hg0 : w.heap.size < w1.heap.size := hA.lt
  generalize hg : w.heap.size = g0 at hA hg0
  go_enter Try.func8, Try.ntmps8
  go_wp2_with (at_make; (try simp only [hw1]); (refine wpList_make_blk rfl _ _ rfl (n + 1) _ _ _ _ rfl rfl (by go_num) (by go_num) (by omega) ?_; intro w2 hB2 hb2))
  have hB2' : Blk w2 w1.heap.size (xs.take 0 ++ List.replicate (n + 1 - 0) zav) := by simpa using hB2
  clear hB2
  go_loopw [8] (fun q wr => ∃ k : Nat, k ≤ i ∧ q = .int .i64 k ∧ Blk wr w1.heap.size (xs.take k ++ List.replicate (n + 1 - k) zav) ∧ Below w1.heap.size w1 wr) (fun q _ => n - (intOf q).toNat)
  case atStart => exact ⟨0, Nat.zero_le _, rfl, hB2', hb2⟩
  case round =>
    clear hB2' hb2
    obtain ⟨k, hk, rfl, hB, hb⟩ := hrel
    by_cases hlt : k < i
    · obtain ⟨x, HX, hat⟩ := (h1.later hb).spot0 (k := k) (by omega)
      have hbw : b < w1.heap.size := (h1.at5 (k := k) (by omega)).lt
      obtain ⟨s0, s1, s2, s3, s4⟩ := hat
      obtain ⟨d0, d1, d2, d3, d4⟩ := hB.at5 (i := k) (by simp; omega)
      have f0 := hB.free (k * 5)
      have f1 := hB.free (k * 5 + 1)
      have f2 := hB.free (k * 5 + 2)
      have f3 := hB.free (k * 5 + 3)
      have f4 := hB.free (k * 5 + 4)
      have hi0 : (0 : Int) ≤ (k : Int) := by omega
      have hi1 : (k : Int) < (n : Int) := by omega
      have hi2 : (k : Int) < (n : Int) + 1 := by omega
      go_wp2
      have hBn : Blk (put5 wr w1.heap.size k x) w1.heap.size (xs.take (k + 1) ++ List.replicate (n + 1 - (k + 1)) zav) := by
        have := hB.put (k := k) (by simp; omega) x
        rw [← HX.out, set_next' xs n k (by omega) hz, HX.out] at this
        exact this
      refine ⟨⟨k + 1, by omega, by go_num, hBn, put5_below hb (Nat.le_refl _) k x⟩, ?_⟩
      simp [intOf]; omega
    · obtain rfl : k = i := by omega
      obtain ⟨a0, a1, a2, a3, a4⟩ := (hA.below hb hg0).one
      obtain ⟨d0, d1, d2, d3, d4⟩ := hB.at5 (i := k) (by simp; omega)
      have f0 := hB.free (k * 5)
      have f1 := hB.free (k * 5 + 1)
      have f2 := hB.free (k * 5 + 2)
      have f3 := hB.free (k * 5 + 3)
      have f4 := hB.free (k * 5 + 4)
      have hi0 : (0 : Int) ≤ (k : Int) := by omega
      have hi2 : (k : Int) < (n : Int) + 1 := by omega
      go_wp2
      have hBn : Blk (put5 wr w1.heap.size k e) w1.heap.size ((xs.take k ++ e :: (xs.take k).drop k) ++ List.replicate (n - k) zav) := by
        have := hB.put (k := k) (by simp; omega) e
        rw [set_mid xs n k e hi hz] at this
        exact this
      have hbn := put5_below hb (Nat.le_refl _) k e
      change Code.wp _ _ _ _ (put5 wr w1.heap.size k e)
      generalize put5 wr w1.heap.size k e = w3 at hBn hbn
      clear a0 a1 a2 a3 a4 d0 d1 d2 d3 d4 f0 f1 f2 f3 f4 hB hb hi0 hi2
      go_loopw [9] (fun q wr => ∃ j : Nat, j ≤ n ∧ k ≤ j ∧ q = .int .i64 j ∧ Blk wr w1.heap.size ((xs.take k ++ e :: (xs.take j).drop k) ++ List.replicate (n - j) zav) ∧ Below w1.heap.size w1 wr) (fun q _ => n - (intOf q).toNat)
      case atStart => exact ⟨k, hi, Nat.le_refl _, rfl, hBn, hbn⟩
      case round =>
        clear hBn hbn
        obtain ⟨j, hj, hkj, rfl, hB, hb⟩ := hrel
        by_cases hlt : j < n
        · obtain ⟨x, HX, hat⟩ := (h1.later hb).spot0 (k := j) (by omega)
          have hbw : b < w1.heap.size := (h1.at5 (k := j) (by omega)).lt
          obtain ⟨s0, s1, s2, s3, s4⟩ := hat
          obtain ⟨d0, d1, d2, d3, d4⟩ := hB.at5 (i := j + 1) (by simp; omega)
          have f0 := hB.free ((j + 1) * 5)
          have f1 := hB.free ((j + 1) * 5 + 1)
          have f2 := hB.free ((j + 1) * 5 + 2)
          have f3 := hB.free ((j + 1) * 5 + 3)
          have f4 := hB.free ((j + 1) * 5 + 4)
          have hi0 : (0 : Int) ≤ (j : Int) := by omega
          have hi1 : (j : Int) < (n : Int) := by omega
          go_wp2
          have hBn : Blk (put5 wr w1.heap.size (j + 1) x) w1.heap.size ((xs.take k ++ e :: (xs.take (j + 1)).drop k) ++ List.replicate (n - (j + 1)) zav) := by
            have := hB.put (k := j + 1) (by simp; omega) x
            rw [← HX.out, set_after xs n k j e hkj hlt hz, HX.out] at this
            exact this
          refine ⟨⟨j + 1, by omega, by omega, by go_num, hBn, put5_below hb (Nat.le_refl _) (j + 1) x⟩, ?_⟩
          simp [intOf]; omega
        · obtain rfl : j = n := by omega
          go_wp2
          go_ret
          refine ⟨w1.heap.size, rfl, ?_, ?_⟩
          · have et : xs.take j = xs := List.take_of_length_le (by omega)
            rw [et, Nat.sub_self, List.replicate_zero, List.append_nil] at hB
            exact hB.row (by have := insertAt_length xs k e; unfold insertAt at this; omega)
          · have := hA1.trans (hb.mono (B' := w.heap.size) (by omega))
            rw [hg] at this
            exact this

end Go.Proofs.Qxb6634833a
