/- Byte rows that the call makes; the capitals of a text. -/
import Derived.Test.Qxb6634895aValid
import Derived.Laws.BytesArg
namespace Go.Proofs.Qxb6634895a
open Go.RowKit

theorem info5 : (Try.prog.info? 5).map (fun i => (i.zero, i.size, i.bytes)) = some (some (.int .u8 0), 1, 1) := by kernel_rfl

/-- Block g is a row of bytes of the call's own. -/
def Blk (w : World) (g : Nat) (e : TypeId) (vs : List Int) : Prop := w.heap[g]? = some (.cells (vs.map (Value.int .u8)).toArray e (0, 0))

theorem Blk.lt {w : World} {g : Nat} {e : TypeId} {vs : List Int} (h : Blk w g e vs) : g < w.heap.size := (Array.getElem?_eq_some_iff.1 h).1
theorem Blk.at {w : World} {g : Nat} {e : TypeId} {vs : List Int} (h : Blk w g e vs) {i : Nat} (hi : i < vs.length) : w.cell? ⟨g, i, none⟩ = some (.int .u8 (vs.getD i 0)) := by
  rw [cell_of_row w g _ _ e (0, 0) h]
  simp [hi]
theorem Blk.cell {w : World} {g : Nat} {e : TypeId} {vs : List Int} (h : Blk w g e vs) {i : Nat} (hi : i < vs.length) : ∃ z, w.cell? ⟨g, i, none⟩ = some (.int .u8 z) := ⟨_, h.at hi⟩
theorem Blk.free {w : World} {g : Nat} {e : TypeId} {vs : List Int} (h : Blk w g e vs) (i : Nat) : w.frozen? ⟨g, i, none⟩ = false := frozen_of_row w g i _ e h
theorem Blk.set {w : World} {g : Nat} {e : TypeId} {vs : List Int} (h : Blk w g e vs) (i : Nat) (z : Int) : Blk (w.setCell ⟨g, i, none⟩ (.int .u8 z)) g e (vs.set i z) := by
  unfold Blk at *
  rw [heap_setCell_same w g i _ e _ h]
  simp [List.map_set]
theorem Blk.text {w : World} {g : Nat} {e : TypeId} {vs : List Int} (h : Blk w g e vs) {n : Nat} (hn : vs.length = n) (c : Nat) : (convert 27 9 (.slice (some ⟨g, 0, none⟩) n c)).run Try.prog w = .ok (.string (strOfNums vs)) w :=
  run_convert_bytes_arg w 27 5 Try.underlying27 Try.underlying5 g 0 n c vs hn (fun i hi => by rw [Nat.zero_add]; exact h.at (by omega)) 9 Try.underlying9

section
variable {w : World} {ops : Array Oper} {rest : List Oper} {o : Oper} {a : Act} {Q : Exit → Act → World → Prop}

theorem wpList_make_blk (hg : o.guard = none) (l c : Operand) (hop : o.op = Op.makeSlice 27 l c) (n : Nat) (kl kc : IntKind) (L C : Int) (hl : a.eval l = .int kl L) (hc : a.eval c = .int kc C) (hL : L = (n : Int)) (hC : C = (n : Int)) (hn : n ≤ 4194304)
    (hK : ∀ w', Blk w' w.heap.size 5 (List.replicate n 0) → Below w.heap.size w w' → wpList Try.prog ops Q rest (a.put o.dst (.slice (some ⟨w.heap.size, 0, none⟩) n n)) w') : wpList Try.prog ops Q (o :: rest) a w := by
  obtain ⟨i0, hi, hz0, hz1, hz2⟩ := info_parts info5
  refine wpList_make_full w hg l c 27 hop w.heap.size 5 i0 _ 1 Try.underlying27 hi hz0 hz1 kl kc L C n hl hc hL hC (by rw [hz2]; omega) (by unfold maxLen; omega) (Nat.le_refl _) ?_
  intro w' hown hgrow
  refine hK w' ?_ ((Below.refl _ _).grown hgrow (Nat.le_refl _) (fun k hk => by cases hk))
  obtain ⟨_, h2⟩ := hown
  rcases h2 with ⟨h2, _⟩ | ⟨g', cap, cur, hv, _, hh, _, _, hsz, ht⟩
  · cases h2
  · simp only [Value.slice.injEq, Option.some.injEq, Addr.mk.injEq, and_true, true_and] at hv
    obtain ⟨hv1, hv2⟩ := hv
    subst hv2
    rw [← hv1] at hh
    unfold Blk
    rw [hh]
    rw [List.take_of_length_le (by simp [hsz])] at ht
    have hcur : cur = (List.replicate n (.int .u8 0)).toArray := by
      apply Array.toList_inj.1
      rw [ht, show (Value.int IntKind.u8 0).cells = #[.int .u8 0] from rfl, Nat.mul_one, toList_madeCells_one]
    rw [hcur]
    simp
end

theorem take_snoc (l : List Int) (k : Nat) (h : k < l.length) : l.take (k + 1) = l.take k ++ [l.getD k 0] := by
  rw [List.take_succ_eq_append_getElem h]; simp [List.getD, h]
theorem set_next (zs : List Int) (n k : Nat) (hk : k < n) (hz : zs.length = n) : (zs.take k ++ List.replicate (n - k) 0).set k (zs.getD k 0) = zs.take (k + 1) ++ List.replicate (n - (k + 1)) 0 := by
  rw [take_snoc zs k (by omega)]
  have e : n - k = (n - (k + 1)) + 1 := by omega
  rw [e, List.replicate_succ, List.set_append_right _ _ (by simp; omega)]
  have : k - (zs.take k).length = 0 := by simp; omega
  rw [this]
  simp

theorem map_getD (f : Int → Int) (l : List Int) {k : Nat} (h : k < l.length) : (l.map f).getD k 0 = f (l.getD k 0) := by
  simp [List.getD, h]
theorem ret_string {a b : ByteArray} (h : a = b) : Ending.returned (.string a) = .returned (.string b) := by rw [h]

set_option maxHeartbeats 2000000 in
theorem upper_any (s : ByteArray) (w : World) (hs : s.size ≤ 65536) :
    Calls Try.prog 9 #[.string s] w fun e w' => e = .returned (.string (upper s)) ∧ Below w.heap.size w w' := by
  have HL : Hid ((nums s).length = s.size) := nums_length s
  have HU : Hid (((nums s).map upb).length = s.size) := by unfold Hid; rw [List.length_map]; exact nums_length s
  go_enter Try.func9, Try.ntmps9
  go_wp2_with (at_make; refine wpList_make_blk rfl _ _ rfl s.size _ _ _ _ rfl rfl (by omega) (by omega) (by omega) ?_; intro w1 hB1 hb1)
  have hB1' : Blk w1 w.heap.size 5 (((nums s).map upb).take 0 ++ List.replicate (s.size - 0) 0) := by simpa using hB1
  clear hB1
  go_loopw [4] (fun i wr => ∃ k : Nat, k ≤ s.size ∧ i = .int .i64 k ∧ Blk wr w.heap.size 5 (((nums s).map upb).take k ++ List.replicate (s.size - k) 0) ∧ Below w.heap.size w wr) (fun i _ => s.size - (intOf i).toNat)
  case atStart => exact ⟨0, Nat.zero_le _, rfl, hB1', hb1⟩
  case round =>
    clear hB1' hb1
    obtain ⟨k, hk, rfl, hB, hb⟩ := hrel
    by_cases hlt : k < s.size
    · have hi0 : (0 : Int) ≤ (k : Int) := by omega
      have hi1 : (k : Int) < (s.size : Int) := by omega
      obtain ⟨z, hz, HE⟩ : ∃ z, Hid ((nums s).getD k 0 = z) ∧ ((s[k]'hlt).toNat : Int) = z := ⟨_, rfl, nums_at s k hlt⟩
      obtain ⟨q, hq⟩ := hB.cell (i := k) (by rw [List.length_append, List.length_take, HU.out, List.length_replicate]; omega)
      have hf := hB.free k
      have hr := nums_getD s k
      rw [hz.out] at hr
      obtain ⟨hr0, hr1⟩ := hr
      have hg : Hid (((nums s).map upb).getD k 0 = upb z) := by
        unfold Hid
        rw [← hz.out]
        exact map_getD _ _ (by rw [HL.out]; exact hlt)
      have HS : Hid (∀ v, v = upb z → Blk (wr.setCell ⟨w.heap.size, k, none⟩ (.int .u8 v)) w.heap.size 5 (((nums s).map upb).take (k + 1) ++ List.replicate (s.size - (k + 1)) 0)) := by
        intro v hv
        have := hB.set k v
        rw [hv, ← hg.out, set_next _ _ _ hlt HU.out, hg.out, ← hv] at this
        exact this
      go_wp2
      all_goals
        refine ⟨⟨k + 1, by omega, by go_num, HS.out _ ?_, hb.setCell (Nat.le_refl _) _⟩, by simp [intOf]; omega⟩
        unfold upb lowb
        first
          | (rw [if_pos (by simp; omega)]; omega)
          | (rw [if_neg (by simp; omega)])
    · obtain rfl : k = s.size := by omega
      rw [List.take_of_length_le (by rw [HU.out]; omega), Nat.sub_self, List.replicate_zero, List.append_nil] at hB
      have ht := hB.text HU.out s.size
      go_wp2
      go_ret
      exact ⟨rfl, hb⟩

end Go.Proofs.Qxb6634895a
