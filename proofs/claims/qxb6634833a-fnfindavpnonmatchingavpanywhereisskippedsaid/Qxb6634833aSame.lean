/- The test that two AVPs are the same, of one AVP and itself. -/
import Derived.Test.Qxb6634833aFind
import Derived.Lib.SliceRun
namespace Go.Proofs.Qxb6634833a
open Go.RowKit

theorem below_drewN (w : World) (n B : Nat) : Below B w (w.drewN n) := ⟨rfl, rfl, rfl, Nat.le_refl _, fun _ _ => rfl⟩

set_option maxRecDepth 100000 in
set_option maxHeartbeats 4000000 in
theorem same_any (x : Av) (w : World) (hd : Dat w x.da x.dn) :
    Calls Try.prog 10 #[.agg #[.int .u32 x.code, .int .u8 x.flags, .int .u32 x.length, .int .u32 x.vendor, .slice x.da x.dn x.dc], .agg #[.int .u32 x.code, .int .u8 x.flags, .int .u32 x.length, .int .u32 x.vendor, .slice x.da x.dn x.dc]] w fun r w' => r = .returned (.bool true) ∧ Below w.heap.size w w' := by
  have hA := alloc_blk w x
  have hb1 : Below w.heap.size w (w.alloc (.cells #[.int .u32 x.code, .int .u8 x.flags, .int .u32 x.length, .int .u32 x.vendor, .slice x.da x.dn x.dc] 28)) := (Below.refl _ _).alloc (Nat.le_refl _) _
  generalize hw1 : w.alloc (.cells #[.int .u32 x.code, .int .u8 x.flags, .int .u32 x.length, .int .u32 x.vendor, .slice x.da x.dn x.dc] 28) = w1 at hA hb1
  have hA2 := alloc_blk w1 x
  have hg : w.heap.size < w1.heap.size := hA.lt
  have hg1 : w1.heap.size = w.heap.size + 1 := by rw [← hw1]; simp
  have hA1 := hA.below ((Below.refl _ _).alloc (Nat.le_refl _) (.cells #[.int .u32 x.code, .int .u8 x.flags, .int .u32 x.length, .int .u32 x.vendor, .slice x.da x.dn x.dc] 28)) hg
  have hb2 := hb1.alloc (Nat.le_of_lt hg) (.cells #[.int .u32 x.code, .int .u8 x.flags, .int .u32 x.length, .int .u32 x.vendor, .slice x.da x.dn x.dc] 28)
  generalize hw2 : w1.alloc (.cells #[.int .u32 x.code, .int .u8 x.flags, .int .u32 x.length, .int .u32 x.vendor, .slice x.da x.dn x.dc] 28) = w2 at hA2 hA1 hb2
  rw [hg1] at hA2
  have hd2 := hd.later hb2
  obtain ⟨a0, a1, a2, a3, a4⟩ := hA1.one
  obtain ⟨c0, c1, c2, c3, c4⟩ := hA2.one
  obtain ⟨q, hq⟩ : ∃ q : Bool, ∀ W, Sem.run Try.prog (binOp .eql 24 (.slice x.da x.dn x.dc) (.slice none 0 0)) W = .ok (.bool q) W := ⟨_, fun W => Lib.run_eql_slice_nil W _ _ _ _ _ _ _ Try.underlying24⟩
  have hm : x.dn ≤ maxLen := hd.1
  unfold maxLen at hm
  have hqq : ∀ W, Sem.run Try.prog (binOp .neq 4 (.bool q) (.bool q)) W = .ok (.bool false) W := by
    intro W
    rw [run_neq_bool W 4 q q Try.underlying4]
    simp
  go_enter Try.func10, Try.ntmps10
  go_wp2
  clear a0 a1 a2 a3 a4 c0 c1 c2 c3 c4
  go_loopw [5] (fun i wr => ∃ k : Nat, k ≤ x.dn ∧ i = .int .i64 k ∧ Blk wr w.heap.size [x] ∧ Blk wr (w.heap.size + 1) [x] ∧ Dat wr x.da x.dn ∧ Below w.heap.size w wr) (fun i _ => x.dn - (intOf i).toNat)
  case atStart => exact ⟨0, Nat.zero_le _, rfl, hA1, hA2, hd2, hb2⟩
  case round =>
    clear hA1 hA2 hb2 hd2
    obtain ⟨k, hk, rfl, hB, hC, hD, hb⟩ := hrel
    obtain ⟨a0, a1, a2, a3, a4⟩ := hB.one
    obtain ⟨c0, c1, c2, c3, c4⟩ := hC.one
    clear a0 a1 a2 a3 c0 c1 c2 c3
    by_cases hlt : k < x.dn
    · obtain ⟨b, off, hda, hc⟩ := hD.2 (by omega)
      obtain ⟨z, hz⟩ := hc k hlt
      have HD : Hid (x.da = some ⟨b, off, none⟩) := hda
      rw [hda] at a4 c4
      clear hda hc
      have hi0 : (0 : Int) ≤ (k : Int) := by omega
      have hi1 : (k : Int) < (x.dn : Int) := by omega
      go_wp2
      go_quiet (fail)
      have hdr := below_drewN wr nq wr.heap.size
      have hB' := hB.below hdr hB.lt
      have hC' := hC.below hdr hC.lt
      have hD' := hD.later hdr
      have hb' := hb.trans (hdr.mono (B' := w.heap.size) hb.size)
      clear a4 c4 hz
      generalize wr.drewN nq = ww at hB' hC' hD' hb'
      go_wp2
      refine ⟨⟨k + 1, by omega, by go_num, hB', hC', hD', hb'⟩, ?_⟩
      simp [intOf]; omega
    · obtain rfl : k = x.dn := by omega
      go_wp2
      go_ret
      exact ⟨rfl, hb⟩

end Go.Proofs.Qxb6634833a
