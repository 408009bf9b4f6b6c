/- The plan's map tasks. -/
import Derived.Test.Qxb6632538aPlan
import Derived.Lib.QuietBelow
namespace Go.Proofs.Qxb6632538a
open Go.RowKit Go.Sort

theorem Plan.split {w : World} {p g n : Nat} {zs : List Int} {s r : Int} (h : Plan w p g n zs s r) : w.cell? ⟨p, 3, none⟩ = some (.int .i64 s) := h.2.1
theorem Plan.reduce {w : World} {p g n : Nat} {zs : List Int} {s r : Int} (h : Plan w p g n zs s r) : w.cell? ⟨p, 2, none⟩ = some (.int .i64 r) := h.1
theorem Plan.inputs {w : World} {p g n : Nat} {zs : List Int} {s r : Int} (h : Plan w p g n zs s r) : w.cell? ⟨p, 7, none⟩ = some (.slice (some ⟨g, 0, none⟩) n n) := h.2.2.1
theorem Plan.spot {w : World} {p g n : Nat} {zs : List Int} {s r : Int} (h : Plan w p g n zs s r) {k : Nat} (hk : k < n) : ∃ z, Hid (zs.getD k 0 = z) ∧ w.cell? ⟨g, k * 2, none⟩ = some (.string ⟨#[]⟩) ∧ w.cell? ⟨g, k * 2 + 1, none⟩ = some (.int .i64 z) := by
  obtain ⟨h1, h2⟩ := h.2.2.2.cells hk
  rw [if_pos hk] at h2
  exact ⟨_, rfl, h1, h2⟩

set_option maxHeartbeats 1000000 in
theorem tasks_any (p g n : Nat) (zs : List Int) (s r : Int) (w : World) (hl : n ≤ 1048576) (hz : zs.length = n) (h : Plan w p g n zs s r)
    (hb : ∀ i, 0 ≤ zs.getD i 0 ∧ zs.getD i 0 ≤ 9223372036854775807) (hs : 0 < s) (hs' : s ≤ 9223372036854775807) :
    Calls Try.prog 11 #[.pointer (some ⟨p, 0, none⟩)] w fun e w' => e = .returned (.int .i64 (mt s zs)) ∧ Below w.heap.size w w' := by
  have HB : Hid (∀ i, 0 ≤ zs.getD i 0 ∧ zs.getD i 0 ≤ 9223372036854775807) := hb
  clear hb
  have hin := h.inputs
  obtain ⟨hp, hg⟩ := h.lt
  go_enter Try.func11, Try.ntmps11
  go_wp2
  go_loopw [3, 11] (fun t i wr => ∃ k : Nat, k ≤ n ∧ i = .int .i64 k ∧ t = .int .i64 (mt s (zs.take k)) ∧ Below w.heap.size w wr) (fun _ i _ => n - (intOf i).toNat)
  case atStart => exact ⟨0, Nat.zero_le _, rfl, rfl, Below.refl _ _⟩
  case round =>
    obtain ⟨k, hk, rfl, rfl, hbl⟩ := hrel
    obtain ⟨m, hm⟩ : ∃ m, m = mt s (zs.take k) := ⟨_, rfl⟩
    rw [← hm]
    have HM : Hid (m = mt s (zs.take k)) := hm
    clear hm
    have hsz := hbl.size
    have hP := h.below hbl hp hg
    have hp' : p < wr.heap.size := by omega
    have hg' : g < wr.heap.size := by omega
    have hsp := hP.split
    by_cases hlt : k < n
    · obtain ⟨z, HZ, hc1, hc2⟩ := hP.spot hlt
      obtain ⟨hz1, hz2⟩ : 0 ≤ z ∧ z ≤ 9223372036854775807 := by rw [← HZ.out]; exact HB.out k
      go_wp2
      have q0 : (wr.alloc (.cells #[.string ⟨#[]⟩, .int .i64 z] 37)).cell? ⟨wr.heap.size, 0, none⟩ = some (.string ⟨#[]⟩) := by simp
      have q1 : (wr.alloc (.cells #[.string ⟨#[]⟩, .int .i64 z] 37)).cell? ⟨wr.heap.size, 1, none⟩ = some (.int .i64 z) := by simp
      have q2 : (wr.alloc (.cells #[.string ⟨#[]⟩, .int .i64 z] 37)).cell? ⟨p, 3, none⟩ = some (.int .i64 s) := by rw [World.cell?_alloc_past _ _ _ hp']; exact hsp
      have qB : Below w.heap.size w (wr.alloc (.cells #[.string ⟨#[]⟩, .int .i64 z] 37)) := hbl.alloc hsz _
      generalize wr.alloc (.cells #[.string ⟨#[]⟩, .int .i64 z] 37) = W at q0 q1 q2 qB ⊢
      have k0 := cell_regrown q0
      have k1 := cell_regrown q1
      have k2 := cell_regrown q2
      have cS : ∀ d os, Calls Try.prog 15 #[.agg #[.string ⟨#[]⟩, .int .i64 z], .int .i64 s] (grow (redrawn W d) os) fun e w'' => e = .returned (.int .i64 (ceil s z)) ∧ ∃ p : Regrown, w'' = grow (redrawn W p.d) p.os := fun d os => Calls.regrown_of (splits_any _ z s _ hz1 hz2 hs hs')
      clear hc1 hc2 hsp
      refine wp_region_quiet_below (by kernel_rfl) (by kernel_rfl) ?_
      repeat (quiet_step (exact cS _ _))
      refine wpQuiet_nil ?_
      intro _ hw'
      obtain ⟨⟨dq, osq⟩, hw''⟩ := hw'
      have hbq := below_regrown W dq osq
      rw [← hw''] at hbq
      clear hw'' k0 k1 k2 cS
      have hbx := qB.trans (hbq.mono qB.size)
      clear hbq q0 q1 q2
      go_wp2
      go_roundw
      case rel => exact ⟨k + 1, by omega, by go_num, int_eq (by rw [mt_succ s zs k (by omega), HZ.out, ← HM.out, IntKind.wrap_i64]; rfl), hbx⟩
      case measure => simp [intOf]; omega
    · go_wp2
      go_ret
      exact ⟨ret_int (by rw [HM.out, List.take_of_length_le (by omega)]), hbl⟩

end Go.Proofs.Qxb6632538a
