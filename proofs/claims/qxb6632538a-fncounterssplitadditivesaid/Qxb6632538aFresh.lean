/- FnCountersFreshMap: the walk. -/
import Derived.Test.Qxb6632538aCounters
import Derived.Test.Qxb6632538aOwn
namespace Go.Proofs.Qxb6632538a
open Go.RowKit Go.Maps

/-- A map of the thirteen counters, whatever they hold, and of nothing else. -/
structure Thirteen (D : DataW Unit) : Prop where
  size : Maps.size D = 13
  has : ∀ i, i < 13 → Maps.has D (kl (zname i)) = true
  other : ∀ k, (∀ j, j < 13 → k ≠ kl (zname j)) → Maps.has D k = false

theorem Fresh.thirteen {D : DataW Unit} {m r : Int} (h : Fresh D m r) : Thirteen D := ⟨h.size, h.has, h.other⟩
theorem Thirteen.put {D : DataW Unit} (h : Thirteen D) (ht : Tidy D) {j : Nat} (hj : j < 13) (d : DataW Unit) : Thirteen (D.put (kl (zname j)) d) := by
  refine ⟨?_, fun i hi => ?_, fun k hk => by rw [has_put_other (hk j hj)]; exact h.other k hk⟩
  · rw [size_put ht, h.has j hj, if_pos rfl]; exact h.size
  · by_cases e : i = j
    · subst e; exact has_put_same ht.isMap (by trivial) d
    · rw [has_put_other (kl_ne hi hj e)]; exact h.has i hi
theorem stranger_ne : ∀ j, j < 13 → (zname 13).data.toList ≠ (zname j).data.toList := by decide
theorem Thirteen.strange {D : DataW Unit} (h : Thirteen D) (ht : Tidy D) (d : DataW Unit) : Maps.size (D.put (kl (zname 13)) d) = 14 := by
  rw [size_put ht, h.other _ (fun j hj e => by simp only [kl, Lit.string.injEq] at e; exact stranger_ne j hj e), h.size]
  rfl

theorem Owns.later {w w' : World} {B n : Nat} {D : DataW Unit} (h : Owns w B n D) (hb : Below w.heap.size w w') : Owns w' B n D :=
  World.ownsMap.kept h (row := none) ⟨hb.os, hb.tape, hb.output, hb.size, fun k hk _ => hb.block k hk⟩ (by simp)
theorem Owns.lt {w : World} {B n : Nat} {D : DataW Unit} (h : Owns w B n D) : B < w.heap.size := World.ownsMap.lt h
theorem Plan.later {w w' : World} {p g n : Nat} {zs : List Int} {s r : Int} (h : Plan w p g n zs s r) (hb : Below w.heap.size w w') : Plan w' p g n zs s r := h.below hb h.lt.1 h.lt.2

section
variable {w : World} {ops : Array Oper} {rest : List Oper} {o : Oper} {a : Act} {Q : Exit → Act → World → Prop}
/-- 'm[name] = v'. -/
theorem wpList_put (hg : o.guard = none) (m x v : Operand) (hop : o.op = Op.mapUpdate 28 m x v) (B n : Nat) (D : DataW Unit) (hm : a.eval m = .map (some B)) (hown : Owns w B n D) (hn : n ≤ 100) (s : ByteArray) (hx : a.eval x = .string s) (hs : s.size ≤ maxLen)
    (c : Int) (hv : a.eval v = .int .i64 c) (hc : (Lit.int .i64 c).wf = true)
    (hK : ∀ w', Owns w' B (n + 1) (D.put (kl s) (i64 c)) → w.grownBy w' (some B) → wpList Try.prog ops Q rest (a.put o.dst undef) w') : wpList Try.prog ops Q (o :: rest) a w :=
  wpList_mapUpdate_own w hg m x v 28 hop 9 2 law9 under28 _ B n D hm hown (by unfold maxLen; omega) _ _ (kl s) hx hv (key_of s hs) _ [] (plainElem_int Try.underlying2 hc) hK
end

theorem same {P : Program} {f : FuncId} {args : Array Value} {w : World} {x : Ending} (h : Calls P f args w fun e w' => e = x ∧ w' = w) : Calls P f args w fun e w' => e = x ∧ w = w' :=
  h.mono fun _ _ ⟨h1, h2⟩ => ⟨h1, h2.symm⟩

/-- The world behind the plan's first counters: what the rest of the walk asks of it. -/
structure Mid (w0 w : World) (p g n : Nat) (zs : List Int) (s r : Int) (B k : Nat) : Prop where
  below : Below w0.heap.size w0 w
  plan : Plan w p g n zs s r
  pB : p < B
  gB : g < B
  low : w0.heap.size ≤ B
  map : ∃ D, Owns w B k D ∧ Thirteen D

theorem Mid.put {w0 w w' : World} {p g n : Nat} {zs : List Int} {s r : Int} {B k : Nat} (h : Mid w0 w p g n zs s r B k) {D : DataW Unit} (ht : Thirteen D) (hown : Owns w B k D) {j : Nat} (hj : j < 13) {d : DataW Unit} (hown' : Owns w' B (k + 1) (D.put (kl (zname j)) d)) (hgrow : w.grownBy w' (some B)) :
    Mid w0 w' p g n zs s r B (k + 1) := by
  have hbB : Below B w w' := (Below.refl _ _).grown hgrow (Nat.le_of_lt hown.lt) (fun k hk => by cases hk; exact Nat.le_refl _)
  exact ⟨h.below.grown hgrow h.below.size (fun k hk => by cases hk; exact h.low), h.plan.below hbB h.pB h.gB, h.pB, h.gB, h.low, _, hown', ht.put (World.ownsMap.tidy hown law9) hj d⟩

theorem len_run {w : World} {B n : Nat} {D : DataW Unit} (h : Owns w B n D) (c : Int) (hc : ((Maps.size D : Nat) : Int) = c) (ty : TypeId) : (Builtin.len_ #[28] ty #[.map (some B)]).run Try.prog w = .ok (.int .i64 c) w := by
  rw [← hc]; exact World.ownsMap.len h under28 ty

/-- The stranger's entry. -/
theorem Mid.last {w0 w w' : World} {p g n : Nat} {zs : List Int} {s r : Int} {B k : Nat} (h : Mid w0 w p g n zs s r B k) (hlt : B < w.heap.size) (hgrow : w.grownBy w' (some B)) : Plan w' p g n zs s r ∧ Below w0.heap.size w0 w' := by
  have hbB : Below B w w' := (Below.refl _ _).grown hgrow (Nat.le_of_lt hlt) (fun k hk => by cases hk; exact Nat.le_refl _)
  exact ⟨h.plan.below hbB h.pB h.gB, h.below.grown hgrow h.below.size (fun k hk => by cases hk; exact h.low)⟩

set_option maxHeartbeats 2000000 in
theorem fresh_main (a : Option Addr) (len cap : Nat) (zs : List Int) (s r : Int) (w : World) (hl : len ≤ 131072) (hs : 0 < s) (hs' : s ≤ 9223372036854775807) (hr : 1 ≤ r) (hr' : r ≤ 9223372036854775807)
    (h : Row w a len zs) (hnil : a = none → len = 0 ∧ cap = 0) (hnn : nn zs = true) (hbnd : ∀ i, 0 ≤ zs.getD i 0 ∧ zs.getD i 0 ≤ 9223372036854775807) :
    Calls Try.prog 4 #[.slice a len cap, .int .i64 s, .int .i64 r] w fun e w' => e = .returned (.bool true) ∧ Below w.heap.size w w' := by
  have qT : ∀ (w : World) (a : Option Addr) (n c : Nat), (binOp .neq 22 (.slice a n c) (.slice none 0 0)).run Try.prog w = .ok (.bool (!a.isNone)) w := fun w a n c => run_neq_slice_nil_any w 22 2 a n c 0 0 Try.underlying22
  have qM : ∀ (w : World) (B : Nat), (binOp .eql 28 (.map (some B)) (.map none)).run Try.prog w = .ok (.bool false) w := fun w B => run_eql_map_nil w 28 9 2 (some B) under28
  have HBN : Hid (∀ i, 0 ≤ zs.getD i 0 ∧ zs.getD i 0 ≤ 9223372036854775807) := hbnd
  clear hbnd
  have hrw : (Lit.int .i64 r).wf = true := wf_i64 (by omega) hr'
  have hby : bytes2 len 0 = true := decide_eq_true (by omega)
  have hlz := h.len
  have HL : Hid (zs.length = len) := hlz
  clear hlz
  cases a
  case' none =>
    obtain ⟨rfl, rfl⟩ := hnil rfl
    have hra := h
    have hbw := Below.refl w.heap.size w
    go_enter Try.func4, Try.ntmps4
    go_wp2_with (first | (go_at_call 12; refine (same (bytes1_any none 0 0 s r _ (Nat.zero_le _))).mono ?_; rintro e w' ⟨rfl, rfl⟩) | (go_at_call 6; refine (same (nonneg_any none 0 0 zs _ (by omega) h)).mono ?_; rintro e w' ⟨rfl, rfl⟩))
  case' some x =>
    go_enter Try.func4, Try.ntmps4
    go_wp2_with (first | (go_at_call 12; refine (same (bytes1_any (some x) len cap s r _ (by unfold maxLen; omega))).mono ?_; rintro e w' ⟨rfl, rfl⟩) | (go_at_call 6; refine (same (nonneg_any (some x) len cap zs _ (by omega) h)).mono ?_; rintro e w' ⟨rfl, rfl⟩) | (at_make; refine wpList_make_row rfl _ _ rfl len _ _ _ _ rfl rfl (by omega) (by omega) (by omega) ?_; intro w1 hz1 hb1) | (with_reducible show wpList _ _ _ (⟨_, .call { callee := .builtin .copy, args := _, argTypes := _ }, _, _, _, _⟩ :: _) _ _; refine wpList_copy_row rfl _ _ rfl w.heap.size len (some x) cap rfl rfl zs hz1 (h.later hb1) ?_; intro w2 hra hb2))
    have hbw := hb1.trans hb2
    clear hz1 hb1 hb2
  all_goals
    refine (plan_any _ _ _ zs s r _ (by omega) hra).mono ?_
    rintro e w1 ⟨p, g, rfl, hP1, hb1⟩
    have hb1' := hbw.trans (hb1.mono hbw.size)
    have hra1 := hra.later hb1
    clear hb1 hra hbw
    go_wp2_with fail
    refine (same (model_any _ _ _ zs s _ (by omega) hra1 HBN.out hs hs')).mono ?_
    rintro e w' ⟨rfl, rfl⟩
    go_wp2_with fail
    refine (tasks_any p g _ zs s r _ (by omega) HL.out hP1 HBN.out hs hs').mono ?_
    rintro e w2 ⟨rfl, hb2⟩
    have hP2 := hP1.later hb2
    have hb2' := hb1'.trans (hb2.mono hb1'.size)
    clear hb2 hP1 hra1 hb1'
    go_wp2_with fail
    refine (counters_any p g _ zs s r _ (by omega) HL.out hP2 HBN.out hs hs' hrw).mono ?_
    rintro e w3 ⟨B, D, rfl, hB, hO, hF, hb3⟩
    have hmid : Mid w w3 p g _ zs s r B 13 := ⟨hb2'.trans (hb3.mono hb2'.size), hP2.later hb3, Nat.lt_of_lt_of_le hP2.lt.1 hB, Nat.lt_of_lt_of_le hP2.lt.2 hB, Nat.le_trans hb2'.size hB, D, hO, hF.thirteen⟩
    clear hB hO hF hb3 hP2 hb2'
    go_wp2
    go_loopw [12] (fun i wr => ∃ k : Nat, k ≤ 11 ∧ i = .int .i64 k ∧ Mid w wr p g _ zs s r B (13 + k)) (fun i _ => 11 - (intOf i).toNat)
    case atStart => exact ⟨0, Nat.zero_le _, rfl, hmid⟩
    case round =>
      obtain ⟨k, hk, rfl, hm⟩ := hrel
      clear hmid
      by_cases hlt : k < 11
      · obtain ⟨D1, hO1, hT1⟩ := hm.map
        go_wp2_with (first | (go_at_call 13; refine (same (name_any k _ hlt)).mono ?_; rintro e w' ⟨rfl, rfl⟩) | (at_mapUpdate; refine wpList_put rfl _ _ _ rfl B (13 + k) D1 rfl hO1 (by omega) (zname k) rfl (zname_size k) 7 rfl (by decide) ?_; intro w4 hO4 hg4))
        have hm' := hm.put hT1 hO1 (j := k) (by omega) hO4 hg4
        clear hO4 hg4 hm hO1 hT1
        go_wp2
        go_roundw
        case rel => exact ⟨k + 1, by omega, by go_num, hm'⟩
        case measure => simp [intOf]; omega
      · obtain ⟨D1, hO1, hT1⟩ := hm.map
        go_wp2_with (first | (at_mapUpdate; refine wpList_put rfl _ _ _ rfl B (13 + k) D1 rfl hO1 (by omega) (zname 11) rfl (zname_size 11) 7 rfl (by decide) ?_; intro w4 hO4 hg4) | (at_mapUpdate; refine wpList_put rfl _ _ _ rfl B (13 + k + 1) _ rfl hO4 (by omega) (zname 12) rfl (zname_size 12) 7 rfl (by decide) ?_; intro w5 hO5 hg5) | (at_mapUpdate; refine wpList_put rfl _ _ _ rfl B (13 + k + 1 + 1) _ rfl hO5 (by omega) (zname 13) rfl (zname_size 13) 1 rfl (by decide) ?_; intro w6 hO6 hg6))
        have hT4 := hT1.put (World.ownsMap.tidy hO1 law9) (j := 11) (by omega) (i64 7)
        have hT5 := hT4.put (World.ownsMap.tidy hO4 law9) (j := 12) (by omega) (i64 7)
        have h14 := hT5.strange (World.ownsMap.tidy hO5 law9) (i64 1)
        have hm5 := (hm.put hT1 hO1 (j := 11) (by omega) hO4 hg4).put hT4 hO4 (j := 12) (by omega) hO5 hg5
        obtain ⟨hP6, hb6⟩ := hm5.last hO5.lt hg6
        clear hm hT1 hT4 hT5 hm5 hO1 hO4 hO5 hg4 hg5 hg6
        refine (counters_any p g _ zs s r _ (by omega) HL.out hP6 HBN.out hs hs' hrw).mono ?_
        rintro e w7 ⟨B2, D2, rfl, hB2, hO7, hF7, hb7⟩
        have hO6' := hO6.later hb7
        have hP7 := hP6.later hb7
        have hb7' := hb6.trans (hb7.mono hb6.size)
        clear hb7 hP6 hO6 hb6 hB2
        go_wp2_with (first | (go_at_call 10; refine (same (shape_any B2 13 D2 (mt s zs) r _ hO7 hF7)).mono ?_; rintro e w' ⟨rfl, rfl⟩) | (go_at_call 11; refine (tasks_any p g _ zs s r _ (by omega) HL.out hP7 HBN.out hs hs').mono ?_; rintro e w8 ⟨rfl, hb8⟩; have hlen := len_run (hO6'.later hb8) 14 (by rw [h14]; rfl)))
        go_ret
        exact ⟨rfl, hb7'.trans (hb8.mono hb7'.size)⟩

end Go.Proofs.Qxb6632538a
