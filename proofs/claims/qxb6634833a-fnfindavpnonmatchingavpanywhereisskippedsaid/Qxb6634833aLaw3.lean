/- The law on an inserted match: the walk. -/
import Derived.Test.Qxb6634833aSame
import Derived.Deep.RegionWith
namespace Go.Proofs.Qxb6634833a
open Go.RowKit

theorem Ans.cases {n : Nat} {w w' : World} {e : Ending} (h : Ans n w e w') : (e = .returned (.bool false) ∧ w = w') ∨ (e = .returned (.bool true) ∧ w = w' ∧ n ≤ 1048576) := by
  obtain ⟨v, rfl, rfl, hv⟩ := h
  cases v
  · exact Or.inl ⟨rfl, rfl⟩
  · exact Or.inr ⟨rfl, rfl, hv rfl⟩
theorem alloc_size (w : World) (o : Obj) : (w.alloc o).heap.size = w.heap.size + 1 := by simp
theorem alloc2_below (w : World) (o o' : Obj) : Below w.heap.size w ((w.alloc o).alloc o') := ((Below.refl _ _).alloc (Nat.le_refl _) _).alloc (by simp) _
theorem find_some {b n c : Nat} {code : Int} {xs : List Av} {w : World} {y : Av} (hl : n ≤ 1048600) (h : Row w (some ⟨b, 0, none⟩) n xs) (hf : xs.find? (hit code) = some y) :
    Calls Try.prog 9 #[.slice (some ⟨b, 0, none⟩) n c, .int .u32 code] w fun r w' => r = .returned (.tuple #[.agg #[.int .u32 y.code, .int .u8 y.flags, .int .u32 y.length, .int .u32 y.vendor, .slice y.da y.dn y.dc], .bool true]) ∧ Below w.heap.size w w' := by
  refine (find_any b n c code xs w hl h).mono ?_
  rintro e w' ⟨⟨z, hz, rfl⟩ | ⟨hz, rfl⟩, hb⟩
  · rw [hf] at hz
    cases hz
    exact ⟨rfl, hb⟩
  · rw [hf] at hz
    cases hz
theorem find_none {b n c : Nat} {code : Int} {xs : List Av} {w : World} (hl : n ≤ 1048600) (h : Row w (some ⟨b, 0, none⟩) n xs) (hf : xs.find? (hit code) = none) :
    Calls Try.prog 9 #[.slice (some ⟨b, 0, none⟩) n c, .int .u32 code] w fun r w' => r = .returned (.tuple #[.agg #[.int .u32 0, .int .u8 0, .int .u32 0, .int .u32 0, .slice none 0 0], .bool false]) ∧ Below w.heap.size w w' := by
  refine (find_any b n c code xs w hl h).mono ?_
  rintro e w' ⟨⟨z, hz, rfl⟩ | ⟨hz, rfl⟩, hb⟩
  · rw [hf] at hz
    cases hz
  · exact ⟨rfl, hb⟩
/-- One that a search in a row finds has its data. -/
theorem found_dat {w : World} {xs : List Av} {n : Nat} {p : Av → Bool} {y : Av} (hz : xs.length = n) (hD : ∀ j, j < n → Dat w (xs.getD j zav).da (xs.getD j zav).dn) (hf : xs.find? p = some y) : Dat w y.da y.dn := by
  have hm := List.mem_of_find?_eq_some hf
  obtain ⟨j, hj, e⟩ := List.getElem_of_mem hm
  have := hD j (by omega)
  have e2 : xs.getD j zav = y := by rw [← e]; simp [List.getD, hj]
  rwa [e2] at this

set_option maxRecDepth 100000 in
set_option maxHeartbeats 4000000 in
theorem law3_some (a : Option Addr) (n c : Nat) (xs : List Av) (code : Int) (k : Nat) (fl len : Int) (da : Option Addr) (dn dc : Nat) (w : World) (hn : n ≤ maxLen) (hnc : n ≤ c) (hm : dn ≤ maxLen) (h : Row w a n xs) (hx : ∀ j, j < n → Dat w (xs.getD j zav).da (xs.getD j zav).dn) (_hd : Dat w da dn) (hk : k ≤ n) (y : Av) (hf : (xs.take k).find? (hit code) = some y) :
    Calls Try.prog 3 #[.slice a n c, .int .u32 code, .int .i64 k, .int .u8 fl, .int .u32 len, .slice da dn dc] w fun r w' => r = .returned (.bool true) ∧ Below w.heap.size w w' := by
  have hz := h.len
  have hxm : ∀ j, j < n → (xs.getD j zav).dn ≤ maxLen := fun j hj => (hx j hj).1
  have HX : Hid (∀ j, j < n → Dat w (xs.getD j zav).da (xs.getD j zav).dn) := hx
  clear hx
  have HXM : Hid (∀ j, j < n → (xs.getD j zav).dn ≤ maxLen) := hxm
  clear hxm
  have HF : Hid ((xs.take k).find? (hit code) = some y) := hf
  clear hf
  have HI : Hid ((insertAt xs k ⟨code, fl, len, 0, da, dn, dc⟩).find? (hit code) = some y) := by
    unfold Hid insertAt
    rw [find_insert _ _ _ _ (by simp [hit]), HF.out]; rfl
  have hdy : Dat w (y : Av).da (y : Av).dn := found_dat (xs := xs.take k) (n := k) (by simp; omega) (fun j hj => by rw [List.getD_eq_getElem?_getD, List.getElem?_take_of_lt hj, ← List.getD_eq_getElem?_getD]; exact HX.out j (by omega)) HF.out
  have hbw1 : Below w.heap.size w (w.alloc (.cells #[.int .u32 code, .int .u8 fl, .int .u32 len, .int .u32 0, .slice da dn dc] 28)) := (Below.refl _ _).alloc (Nat.le_refl _) _
  have hA1 := alloc_blk w ⟨code, fl, len, 0, da, dn, dc⟩
  obtain ⟨w1, hw1⟩ : ∃ w1, w.alloc (.cells #[.int .u32 code, .int .u8 fl, .int .u32 len, .int .u32 0, .slice da dn dc] 28) = w1 := ⟨_, rfl⟩
  rw [hw1] at hbw1 hA1
  have hn' : n ≤ 9223372036854775807 := hn
  go_enter Try.func3, Try.ntmps3
  go_wp2_with (first | (go_at_call 5; refine (bytes_any a n c xs code k fl len da dn dc w hn hm h HXM.out).mono ?_; rintro e w' hA; rcases hA.cases with ⟨rfl, rfl⟩ | ⟨rfl, rfl, hv⟩) | (go_at_call 6; refine (size_any a n c xs da dn dc w hv hm h HXM.out).mono ?_; rintro e w' hA; rcases hA.cases with ⟨rfl, rfl⟩ | ⟨rfl, rfl, hv2⟩) | (go_at_call 7; (refine (wire_any a k c (xs.take k) w1 (Nat.le_trans hk hv) ((h.later hbw1).take hk)).mono ?_; rintro e w2 ⟨g2, rfl, hR2, hb2⟩)))
  all_goals first | (go_ret; exact ⟨rfl, Below.refl _ _⟩) | skip
  have hbw2 := hbw1.trans (hb2.mono hbw1.size)
  have hA2 := hA1.below hb2 hA1.lt
  have hv' : n ≤ 1048600 := by omega
  obtain ⟨o0, o1, o2, o3, o4⟩ := hA2.one
  go_region_with (first | (go_at_call 7; refine (wire_any a n c xs w2.drew hv (h.later hbw2.drew)).mono ?_; rintro e w3 ⟨g3, rfl, hR3, hb3⟩; have hA3 := Blk.below (w := w2.drew) hA2 hb3 hA2.lt; obtain ⟨p0, p1, p2, p3, p4⟩ := hA3.one) | (go_at_call 8; refine (insert_any g3 n n k xs ⟨code, fl, len, 0, da, dn, dc⟩ w3 hv' hk hR3).mono ?_; rintro e w4 ⟨g4, rfl, hR4, hb4⟩))
  all_goals
    have hbw3 := hbw2.drew.trans (hb3.mono hbw2.drew.size)
    have hbw4 := hbw3.trans (hb4.mono hbw3.size)
    have hA4 := hA3.below hb4 hA3.lt
    have hb23 : Below w2.heap.size w2 w3 := ((Below.refl w2.heap.size w2).drew).trans hb3
    have hR2' := hR2.later (hb23.trans (hb4.mono hb23.size))
    have hv1 : n + 1 ≤ 1048600 := by omega
    have hk1 : k ≤ 1048600 := by omega
    clear o0 o1 o2 o3 o4 p0 p1 p2 p3 p4 hb2 hb3 hR2 hR3 hb23 hw1
    go_wp2_with (first | (go_at_call_of 9 (Value.slice (some ⟨g2, 0, none⟩) k k); refine (find_some hk1 hR2' HF.out).mono ?_; rintro e w5 ⟨rfl, hb5⟩; have hbw5 := hbw4.trans (hb5.mono hbw4.size); have hR5 := hR4.later hb5; have hA5 := hA4.below hb5 hA4.lt; have hB6 : Blk (w5.alloc (.cells #[.int .u32 y.code, .int .u8 y.flags, .int .u32 y.length, .int .u32 y.vendor, .slice y.da y.dn y.dc] 28)) w5.heap.size [y] := alloc_blk w5 y; have hb6 := (Below.refl w5.heap.size w5).alloc (Nat.le_refl _) (.cells #[.int .u32 y.code, .int .u8 y.flags, .int .u32 y.length, .int .u32 y.vendor, .slice y.da y.dn y.dc] 28); obtain ⟨w6, hw6⟩ : ∃ w6, w5.alloc (.cells #[.int .u32 y.code, .int .u8 y.flags, .int .u32 y.length, .int .u32 y.vendor, .slice y.da y.dn y.dc] 28) = w6 := ⟨_, rfl⟩; rw [hw6] at hB6 hb6; have hA6 := hA5.below hb6 hA5.lt; obtain ⟨o0, o1, o2, o3, o4⟩ := hA6.one; obtain ⟨q0, q1, q2, q3, q4⟩ := hB6.one; have hB7 : Blk (w6.alloc (.cells #[.int .u32 y.code, .int .u8 y.flags, .int .u32 y.length, .int .u32 y.vendor, .slice y.da y.dn y.dc] 28)) w6.heap.size [y] := alloc_blk w6 y; have hb7 := (Below.refl w6.heap.size w6).alloc (Nat.le_refl _) (.cells #[.int .u32 y.code, .int .u8 y.flags, .int .u32 y.length, .int .u32 y.vendor, .slice y.da y.dn y.dc] 28); obtain ⟨w7, hw7⟩ : ∃ w7, w6.alloc (.cells #[.int .u32 y.code, .int .u8 y.flags, .int .u32 y.length, .int .u32 y.vendor, .slice y.da y.dn y.dc] 28) = w7 := ⟨_, rfl⟩; rw [hw7] at hB7 hb7; have hl56 : w5.heap.size < w6.heap.size := hB6.lt; have hR7 := (hR5.later hb6).later hb7; have hbw6 := hbw5.trans (hb6.mono hbw5.size); have hbw7 := hbw6.trans (hb7.mono hbw6.size)) | (go_at_call 9; (refine (find_some hv1 hR7 HI.out).mono ?_; rintro e w8 ⟨rfl, hb8⟩; have hbw8 := hbw7.trans (hb8.mono hbw7.size); have hB8 := hB7.below hb8 hB7.lt; obtain ⟨r0, r1, r2, r3, r4⟩ := hB8.one; have hl68 : w6.heap.size < w8.heap.size := hB8.lt)) | (go_at_call 10; refine (same_any y (w8.alloc (.cells #[.int .u32 y.code, .int .u8 y.flags, .int .u32 y.length, .int .u32 y.vendor, .slice y.da y.dn y.dc] 28)) (hdy.later (hbw8.alloc hbw8.size _))).mono ?_; rintro e w9 ⟨rfl, hb9⟩))
  all_goals (go_ret; exact ⟨rfl, (hbw8.alloc hbw8.size _).trans (hb9.mono (hbw8.alloc hbw8.size _).size)⟩)

set_option maxRecDepth 100000 in
set_option maxHeartbeats 4000000 in
theorem law3_none (a : Option Addr) (n c : Nat) (xs : List Av) (code : Int) (k : Nat) (fl len : Int) (da : Option Addr) (dn dc : Nat) (w : World) (hn : n ≤ maxLen) (hnc : n ≤ c) (hm : dn ≤ maxLen) (h : Row w a n xs) (hx : ∀ j, j < n → Dat w (xs.getD j zav).da (xs.getD j zav).dn) (hd : Dat w da dn) (hk : k ≤ n) (hf : (xs.take k).find? (hit code) = none) :
    Calls Try.prog 3 #[.slice a n c, .int .u32 code, .int .i64 k, .int .u8 fl, .int .u32 len, .slice da dn dc] w fun r w' => r = .returned (.bool true) ∧ Below w.heap.size w w' := by
  have hz := h.len
  have hxm : ∀ j, j < n → (xs.getD j zav).dn ≤ maxLen := fun j hj => (hx j hj).1
  have HX : Hid (∀ j, j < n → Dat w (xs.getD j zav).da (xs.getD j zav).dn) := hx
  clear hx
  have HXM : Hid (∀ j, j < n → (xs.getD j zav).dn ≤ maxLen) := hxm
  clear hxm
  have HF : Hid ((xs.take k).find? (hit code) = none) := hf
  clear hf
  have HI : Hid ((insertAt xs k ⟨code, fl, len, 0, da, dn, dc⟩).find? (hit code) = some ⟨code, fl, len, 0, da, dn, dc⟩) := by
    unfold Hid insertAt
    rw [find_insert _ _ _ _ (by simp [hit]), HF.out]; rfl
  have hdy : Dat w (⟨code, fl, len, 0, da, dn, dc⟩ : Av).da (⟨code, fl, len, 0, da, dn, dc⟩ : Av).dn := hd
  have hbw1 : Below w.heap.size w (w.alloc (.cells #[.int .u32 code, .int .u8 fl, .int .u32 len, .int .u32 0, .slice da dn dc] 28)) := (Below.refl _ _).alloc (Nat.le_refl _) _
  have hA1 := alloc_blk w ⟨code, fl, len, 0, da, dn, dc⟩
  obtain ⟨w1, hw1⟩ : ∃ w1, w.alloc (.cells #[.int .u32 code, .int .u8 fl, .int .u32 len, .int .u32 0, .slice da dn dc] 28) = w1 := ⟨_, rfl⟩
  rw [hw1] at hbw1 hA1
  have hn' : n ≤ 9223372036854775807 := hn
  go_enter Try.func3, Try.ntmps3
  go_wp2_with (first | (go_at_call 5; refine (bytes_any a n c xs code k fl len da dn dc w hn hm h HXM.out).mono ?_; rintro e w' hA; rcases hA.cases with ⟨rfl, rfl⟩ | ⟨rfl, rfl, hv⟩) | (go_at_call 6; refine (size_any a n c xs da dn dc w hv hm h HXM.out).mono ?_; rintro e w' hA; rcases hA.cases with ⟨rfl, rfl⟩ | ⟨rfl, rfl, hv2⟩) | (go_at_call 7; (refine (wire_any a k c (xs.take k) w1 (Nat.le_trans hk hv) ((h.later hbw1).take hk)).mono ?_; rintro e w2 ⟨g2, rfl, hR2, hb2⟩)))
  all_goals first | (go_ret; exact ⟨rfl, Below.refl _ _⟩) | skip
  have hbw2 := hbw1.trans (hb2.mono hbw1.size)
  have hA2 := hA1.below hb2 hA1.lt
  have hv' : n ≤ 1048600 := by omega
  obtain ⟨o0, o1, o2, o3, o4⟩ := hA2.one
  go_region_with (first | (go_at_call 7; refine (wire_any a n c xs w2.drew hv (h.later hbw2.drew)).mono ?_; rintro e w3 ⟨g3, rfl, hR3, hb3⟩; have hA3 := Blk.below (w := w2.drew) hA2 hb3 hA2.lt; obtain ⟨p0, p1, p2, p3, p4⟩ := hA3.one) | (go_at_call 8; refine (insert_any g3 n n k xs ⟨code, fl, len, 0, da, dn, dc⟩ w3 hv' hk hR3).mono ?_; rintro e w4 ⟨g4, rfl, hR4, hb4⟩))
  all_goals
    have hbw3 := hbw2.drew.trans (hb3.mono hbw2.drew.size)
    have hbw4 := hbw3.trans (hb4.mono hbw3.size)
    have hA4 := hA3.below hb4 hA3.lt
    have hb23 : Below w2.heap.size w2 w3 := ((Below.refl w2.heap.size w2).drew).trans hb3
    have hR2' := hR2.later (hb23.trans (hb4.mono hb23.size))
    have hv1 : n + 1 ≤ 1048600 := by omega
    have hk1 : k ≤ 1048600 := by omega
    clear o0 o1 o2 o3 o4 p0 p1 p2 p3 p4 hb2 hb3 hR2 hR3 hb23 hw1
    go_wp2_with (first | (go_at_call_of 9 (Value.slice (some ⟨g2, 0, none⟩) k k); refine (find_none hk1 hR2' HF.out).mono ?_; rintro e w5 ⟨rfl, hb5⟩; have hbw5 := hbw4.trans (hb5.mono hbw4.size); have hR5 := hR4.later hb5; have hA5 := hA4.below hb5 hA4.lt; obtain ⟨o0, o1, o2, o3, o4⟩ := hA5.one; have hl5 : w.heap.size < w5.heap.size := hA5.lt; have hB7 : Blk ((w5.alloc (.cells #[.int .u32 0, .int .u8 0, .int .u32 0, .int .u32 0, .slice none 0 0] 28)).alloc (.cells #[.int .u32 code, .int .u8 fl, .int .u32 len, .int .u32 0, .slice da dn dc] 28)) (w5.alloc (.cells #[.int .u32 0, .int .u8 0, .int .u32 0, .int .u32 0, .slice none 0 0] 28)).heap.size [⟨code, fl, len, 0, da, dn, dc⟩] := alloc_blk _ ⟨code, fl, len, 0, da, dn, dc⟩; have hb7 := alloc2_below w5 (.cells #[.int .u32 0, .int .u8 0, .int .u32 0, .int .u32 0, .slice none 0 0] 28) (.cells #[.int .u32 code, .int .u8 fl, .int .u32 len, .int .u32 0, .slice da dn dc] 28); rw [alloc_size] at hB7; obtain ⟨w7, hw7⟩ : ∃ w7, (w5.alloc (.cells #[.int .u32 0, .int .u8 0, .int .u32 0, .int .u32 0, .slice none 0 0] 28)).alloc (.cells #[.int .u32 code, .int .u8 fl, .int .u32 len, .int .u32 0, .slice da dn dc] 28) = w7 := ⟨_, rfl⟩; rw [hw7] at hB7 hb7; have hR7 := hR5.later hb7; have hbw7 := hbw5.trans (hb7.mono hbw5.size)) | (go_at_call 9; (refine (find_some hv1 hR7 HI.out).mono ?_; rintro e w8 ⟨rfl, hb8⟩; have hbw8 := hbw7.trans (hb8.mono hbw7.size); have hB8 := hB7.below hb8 hB7.lt; obtain ⟨r0, r1, r2, r3, r4⟩ := hB8.one; have hl68 : w5.heap.size + 1 < w8.heap.size := hB8.lt)) | (go_at_call 10; refine (same_any ⟨code, fl, len, 0, da, dn, dc⟩ (w8.alloc (.cells #[.int .u32 code, .int .u8 fl, .int .u32 len, .int .u32 0, .slice da dn dc] 28)) (hdy.later (hbw8.alloc hbw8.size _))).mono ?_; rintro e w9 ⟨rfl, hb9⟩))
  all_goals (go_ret; exact ⟨rfl, (hbw8.alloc hbw8.size _).trans (hb9.mono (hbw8.alloc hbw8.size _).size)⟩)

set_option maxRecDepth 100000 in
set_option maxHeartbeats 4000000 in
theorem law3_out (a : Option Addr) (n c : Nat) (xs : List Av) (code i : Int) (fl len : Int) (da : Option Addr) (dn dc : Nat) (w : World) (hn : n ≤ maxLen) (hm : dn ≤ maxLen) (h : Row w a n xs) (hx : ∀ j, j < n → Dat w (xs.getD j zav).da (xs.getD j zav).dn) (hi : i < 0 ∨ (n : Int) < i) :
    Calls Try.prog 3 #[.slice a n c, .int .u32 code, .int .i64 i, .int .u8 fl, .int .u32 len, .slice da dn dc] w fun r w' => r = .returned (.bool true) ∧ Below w.heap.size w w' := by
  have HXM : Hid (∀ j, j < n → (xs.getD j zav).dn ≤ maxLen) := fun j hj => (hx j hj).1
  clear hx
  have hn' : n ≤ 9223372036854775807 := hn
  rcases hi with hi | hi
  all_goals
    go_enter Try.func3, Try.ntmps3
    go_wp2_with (first | (go_at_call 5; refine (bytes_any a n c xs code i fl len da dn dc w hn hm h HXM.out).mono ?_; rintro e w' hA; rcases hA.cases with ⟨rfl, rfl⟩ | ⟨rfl, rfl, hv⟩) | (go_at_call 6; refine (size_any a n c xs da dn dc w hv hm h HXM.out).mono ?_; rintro e w' hA; rcases hA.cases with ⟨rfl, rfl⟩ | ⟨rfl, rfl, hv2⟩))
    all_goals (go_ret; exact ⟨rfl, Below.refl _ _⟩)

/-- The law's own function answers true, whatever it is given. -/
theorem law3 (a : Option Addr) (n c : Nat) (xs : List Av) (code i : Int) (fl len : Int) (da : Option Addr) (dn dc : Nat) (w : World) (hn : n ≤ maxLen) (hnc : n ≤ c) (hm : dn ≤ maxLen) (h : Row w a n xs) (hx : ∀ j, j < n → Dat w (xs.getD j zav).da (xs.getD j zav).dn) (hd : Dat w da dn) :
    Calls Try.prog 3 #[.slice a n c, .int .u32 code, .int .i64 i, .int .u8 fl, .int .u32 len, .slice da dn dc] w fun r w' => r = .returned (.bool true) ∧ Below w.heap.size w w' := by
  by_cases hi : i < 0 ∨ (n : Int) < i
  · exact law3_out a n c xs code i fl len da dn dc w hn hm h hx hi
  · obtain ⟨k, rfl⟩ : ∃ k : Nat, i = (k : Int) := ⟨i.toNat, by omega⟩
    have hk : k ≤ n := by omega
    cases hf : (xs.take k).find? (hit code) with
    | none => exact law3_none a n c xs code k fl len da dn dc w hn hnc hm h hx hd hk hf
    | some y => exact law3_some a n c xs code k fl len da dn dc w hn hnc hm h hx hd hk y hf

end Go.Proofs.Qxb6634833a
