/- The counters' literal: thirteen inserts, a call and a chain of loads, in whatever order. -/
import Derived.Test.Qxb6632538aRegion
namespace Go.Proofs.Qxb6632538a
open Go.RowKit Go.Maps

/-- The operations of a body's second region. -/
def regionOf : Option Code → Array Oper
  | some (.seq _ (.seq (.region _ ops _) _)) => ops
  | _ => #[]

/-- Operation i waits for operation k. -/
def needs (ops : Array Oper) (i k : Nat) : Bool :=
  match ops[i]? with
  | some o => o.after.any (fun e => e.on == k && Region.binds .any e)
  | none => false

theorem need {ops : Array Oper} {listed : Array Bool} {i k : Nat} (hi : i ∈ Region.ready .any ops listed) (h : needs ops i k = true) : listed.getD k false = true := by
  obtain ⟨_, o, ho, hall⟩ := mem_ready.1 hi
  simp only [needs, ho, Array.any_eq_true'] at h
  obtain ⟨e, he, h1⟩ := h
  simp only [Bool.and_eq_true, beq_iff_eq] at h1
  have := hall e he h1.2
  rw [h1.1] at this
  exact this

theorem getD_upd {listed : Array Bool} {i : Nat} (hi : i < listed.size) : (fun k => (listed.setIfInBounds i true).getD k false) = upd (fun k => listed.getD k false) i := by
  funext k
  simp only [upd, Array.getD_eq_getD_getElem?, Array.getElem?_setIfInBounds]
  by_cases h : i = k
  · subst h; simp [hi]
  · rw [if_neg h, if_neg (fun e => h e.symm)]

/-- The frame, by what has come up. -/
def fr (p B : Nat) (m r : Int) (L : Nat → Bool) : Act :=
  { tmps := #[.pointer (some ⟨p, 0, none⟩), undef, cond (L 22) (.map (some B)) (.map none), cond (L 0) (.map (some B)) undef, cond (L 8) (.pointer (some ⟨p, 0, none⟩)) undef, cond (L 9) (.int .i64 m) undef,
      cond (L 11) (.pointer (some ⟨p, 0, none⟩)) undef, cond (L 12) (.pointer (some ⟨p, 0, none⟩)) undef, cond (L 13) (.pointer (some ⟨p, 0, none⟩)) undef, cond (L 14) (.pointer (some ⟨p, 2, none⟩)) undef, cond (L 15) (.int .i64 r) undef, cond (L 21) (.map (some B)) undef],
    defers := [] }

structure At (w0 : World) (p : Nat) (m r : Int) (L : Nat → Bool) (B : Nat) (D : DataW Unit) (a : Act) (w : World) : Prop where
  frame : a = fr p B m r L
  below : Below w0.heap.size w0 w
  made : L 0 = true → w0.heap.size ≤ B ∧ Owns w B (cnt L) D ∧ Part L m r D
  unmade : L 0 = false → L 21 = false ∧ L 22 = false ∧ ∀ j, j < 13 → L (ix j) = false

def Inv (w0 : World) (p : Nat) (m r : Int) (L : Nat → Bool) (a : Act) (w : World) : Prop := ∃ B D, At w0 p m r L B D a w

theorem ix_ne : ∀ j, j < 13 → ∀ i ∈ [0, 8, 9, 11, 12, 13, 14, 15, 21, 22], ix j ≠ i := by decide

theorem cnt_other {L : Nat → Bool} {i : Nat} (h : i ∈ [0, 8, 9, 11, 12, 13, 14, 15, 21, 22]) : cnt (upd L i) = cnt L := by
  unfold cnt
  apply List.countP_congr
  intro j hj
  simp [upd, ix_ne j (by simpa using hj) i h]
theorem part_other {L : Nat → Bool} {i : Nat} {m r : Int} {D : DataW Unit} (h : i ∈ [0, 8, 9, 11, 12, 13, 14, 15, 21, 22]) (hp : Part L m r D) : Part (upd L i) m r D :=
  ⟨by rw [cnt_other h]; exact hp.size, fun j hj => by rw [hp.has j hj]; simp [upd, ix_ne j hj i h], hp.other, fun j hj e => hp.val j hj (by simpa [upd, ix_ne j hj i h] using e)⟩

/-- A step that turns nothing of the map: a copy, an address, a load, the call. -/
theorem At.quiet {w0 : World} {p : Nat} {m r : Int} {L : Nat → Bool} {B : Nat} {D : DataW Unit} {a : Act} {w w' : World} (h : At w0 p m r L B D a w) {i : Nat} (hi : i ∈ [8, 9, 11, 12, 13, 14, 15, 21, 22]) (h0 : i = 21 ∨ i = 22 → L 0 = true)
    (hb : Below w.heap.size w w') {a' : Act} (ha : a' = fr p B m r (upd L i)) : At w0 p m r (upd L i) B D a' w' := by
  have hi' : i ∈ [0, 8, 9, 11, 12, 13, 14, 15, 21, 22] := List.mem_cons_of_mem _ hi
  have hi0 : (0 : Nat) ≠ i := by intro e; subst e; simp at hi
  refine ⟨ha, h.below.trans (hb.mono h.below.size), fun e => ?_, fun e => ?_⟩
  · have e' : L 0 = true := by simpa [upd, hi0] using e
    obtain ⟨h1, h2, h3⟩ := h.made e'
    exact ⟨h1, by rw [cnt_other hi']; exact World.ownsMap.kept h2 (row := none) ⟨hb.os, hb.tape, hb.output, hb.size, fun k hk _ => hb.block k hk⟩ (by simp), part_other hi' h3⟩
  · have e' : L 0 = false := by simpa [upd, hi0] using e
    obtain ⟨h1, h2, h3⟩ := h.unmade e'
    have n21 : i ≠ 21 := fun e => by rw [h0 (.inl e)] at e'; cases e'
    have n22 : i ≠ 22 := fun e => by rw [h0 (.inr e)] at e'; cases e'
    refine ⟨by simpa [upd, n21.symm] using h1, by simpa [upd, n22.symm] using h2, fun j hj => by simpa [upd, ix_ne j hj i hi'] using h3 j hj⟩

theorem wf_i64 {m : Int} (h1 : -9223372036854775808 ≤ m) (h2 : m ≤ 9223372036854775807) : (Lit.int .i64 m).wf = true := WalkArith.wf_i64 (by omega)

/-- An insert. -/
theorem At.insert {w0 : World} {p : Nat} {m r : Int} {L : Nat → Bool} {B : Nat} {D : DataW Unit} {a : Act} {w : World} {Q : Exit → Act → World → Prop} {ops : Array Oper} (h : At w0 p m r L B D a w) (hm : (Lit.int .i64 m).wf = true) (hr : (Lit.int .i64 r).wf = true)
    (j : Nat) (hj : j < 13) (x : Operand) {o : Oper} (ho : ops[ix j]? = some o) (hg : o.guard = none) (hd : o.dst = none) (hop : o.op = Op.insert 28 (.tmp 3) (.const (.string (zname j))) x)
    (hx : (fr p B m r L).eval x = .int .i64 (vl m r j)) (h0 : L 0 = true) (hL : L (ix j) = false) (hfr : fr p B m r (upd L (ix j)) = fr p B m r L) :
    wpOp Try.prog ops Q (ix j) (fun a' w' => Inv w0 p m r (upd L (ix j)) a' w') a w := by
  obtain ⟨hB, hown, hpart⟩ := h.made h0
  have ha := h.frame
  subst ha
  have hv : (Lit.int .i64 (vl m r j)).wf = true := by
    unfold vl
    split
    · exact hm
    · exact hr
    · decide
  have hlt : cnt L < maxLen := by have := cnt_le L; unfold maxLen; omega
  have ht := World.ownsMap.tidy hown law9
  refine wpOp_insert ho hg x (zname j) hop (zname_size j) (vl m r j) B (cnt L) D (by simp [fr, Act.eval, h0]) hx hv hown hlt ?_
  intro w' hown' hgrow
  refine ⟨B, D.put (kl (zname j)) (i64 (vl m r j)), ?_, h.below.grown hgrow h.below.size (fun k hk => by cases hk; exact hB), fun _ => ⟨hB, ?_, hpart.put ht hj hL⟩, fun e => ?_⟩
  · rw [hd, hfr]; rfl
  · rw [cnt_upd hj hL]; exact hown'
  · have : (0 : Nat) ≠ ix j := fun e => (ix_ne j hj 0 (by simp)) e.symm
    simp [upd, this, h0] at e

theorem upd_same (L : Nat → Bool) (i : Nat) : upd L i i = true := by simp [upd]

set_option maxHeartbeats 2000000 in
/-- Whatever operation may come up keeps the invariant. -/
theorem region_step {Q : Exit → Act → World → Prop} (w0 : World) (p g n : Nat) (zs : List Int) (s r : Int) (hl : n ≤ 1048576) (hz : zs.length = n) (hP : Plan w0 p g n zs s r)
    (hb : ∀ i, 0 ≤ zs.getD i 0 ∧ zs.getD i 0 ≤ 9223372036854775807) (hs : 0 < s) (hs' : s ≤ 9223372036854775807) (hr : (Lit.int .i64 r).wf = true)
    (listed : Array Bool) (a : Act) (w : World) (hsz : listed.size = 23) (hI : Inv w0 p (mt s zs) r (fun k => listed.getD k false) a w) (i : Nat) (hi : i ∈ Region.ready .any (regionOf Try.f8.body) listed) :
    wpOp Try.prog (regionOf Try.f8.body) Q i (fun a' w' => Inv w0 p (mt s zs) r (fun k => (listed.setIfInBounds i true).getD k false) a' w') a w := by
  obtain ⟨hp, hg⟩ := hP.lt
  have hm : (Lit.int .i64 (mt s zs)).wf = true := wf_i64 (mt_bounds s zs).1 (mt_bounds s zs).2
  have hf : listed.getD i true = false := (mem_ready.1 hi).1
  have hi23 : i < 23 := by
    rcases Nat.lt_or_ge i listed.size with h' | h'
    · omega
    · simp [Array.getElem?_eq_none h'] at hf
  rw [getD_upd (by omega)]
  have hLi : (fun k => listed.getD k false) i = false := by
    have hi' : i < listed.size := by omega
    simpa [hi'] using hf
  have hneed : ∀ k, needs (regionOf Try.f8.body) i k = true → (fun k => listed.getD k false) k = true := fun k hk => need hi hk
  clear hi hf
  generalize (fun k => listed.getD k false) = L at *
  obtain ⟨m, hmt⟩ : ∃ m, mt s zs = m := ⟨_, rfl⟩
  rw [hmt] at hm hI ⊢
  have HM : Hid (mt s zs = m) := hmt
  clear hmt
  obtain ⟨B, D, hA⟩ := hI
  have ha := hA.frame
  have hcases : i = 0 ∨ i = 1 ∨ i = 2 ∨ i = 3 ∨ i = 4 ∨ i = 5 ∨ i = 6 ∨ i = 7 ∨ i = 8 ∨ i = 9 ∨ i = 10 ∨ i = 11 ∨ i = 12 ∨ i = 13 ∨ i = 14 ∨ i = 15 ∨ i = 16 ∨ i = 17 ∨ i = 18 ∨ i = 19 ∨ i = 20 ∨ i = 21 ∨ i = 22 := by omega
  rcases hcases with rfl | rfl | rfl | rfl | rfl | rfl | rfl | rfl | rfl | rfl | rfl | rfl | rfl | rfl | rfl | rfl | rfl | rfl | rfl | rfl | rfl | rfl | rfl
  · obtain ⟨⟨dst, op, type, pos, after, guard⟩, ho, h1, h2, h3⟩ : ∃ o, (regionOf Try.f8.body)[0]? = some o ∧ o.dst = some 3 ∧ o.op = .makeMap 28 none ∧ o.guard = none := ⟨_, rfl, rfl, rfl, rfl⟩
    simp only at h1 h2 h3
    subst h1 h2 h3
    refine wpOp_step ho (fun K' hK' => ?_)
    obtain ⟨e21, e22, eix⟩ := hA.unmade hLi
    have hmm := @run_makeMap Try.prog
    rw [ha]
    unfold fr
    go_simp
    refine hK' _ _ ⟨w.heap.size, .map [], ?_, hA.below.alloc hA.below.size _, fun _ => ⟨hA.below.size, (World.ownsMap_made w Try.prog 9 _).mono (Nat.zero_le _), part_other (by simp) (part_empty eix)⟩, fun e => by simp [upd] at e⟩
    simp [fr, upd, e21, e22]
  · exact hA.insert hm hr 0 (by omega) _ rfl rfl rfl rfl rfl (hneed 0 (by kernel_rfl)) hLi (by simp [fr, upd, ix])
  · exact hA.insert hm hr 1 (by omega) _ rfl rfl rfl rfl rfl (hneed 0 (by kernel_rfl)) hLi (by simp [fr, upd, ix])
  · exact hA.insert hm hr 2 (by omega) _ rfl rfl rfl rfl rfl (hneed 0 (by kernel_rfl)) hLi (by simp [fr, upd, ix])
  · exact hA.insert hm hr 3 (by omega) _ rfl rfl rfl rfl rfl (hneed 0 (by kernel_rfl)) hLi (by simp [fr, upd, ix])
  · exact hA.insert hm hr 4 (by omega) _ rfl rfl rfl rfl rfl (hneed 0 (by kernel_rfl)) hLi (by simp [fr, upd, ix])
  · exact hA.insert hm hr 5 (by omega) _ rfl rfl rfl rfl rfl (hneed 0 (by kernel_rfl)) hLi (by simp [fr, upd, ix])
  · exact hA.insert hm hr 6 (by omega) _ rfl rfl rfl rfl rfl (hneed 0 (by kernel_rfl)) hLi (by simp [fr, upd, ix])
  · obtain ⟨⟨dst, op, type, pos, after, guard⟩, ho, h1, h2, h3⟩ : ∃ o, (regionOf Try.f8.body)[8]? = some o ∧ o.dst = some 4 ∧ o.op = .move (.tmp 0) ∧ o.guard = none := ⟨_, rfl, rfl, rfl, rfl⟩
    simp only at h1 h2 h3
    subst h1 h2 h3
    refine wpOp_step ho (fun K' hK' => ?_)
    rw [ha]
    unfold fr
    go_simp
    refine hK' _ _ ⟨B, D, hA.quiet (i := 8) (by simp) (by omega) (Below.refl _ _) ?_⟩
    simp [fr, upd]
  · obtain ⟨⟨dst, op, type, pos, after, guard⟩, ho, h1, h2, h3⟩ : ∃ o, (regionOf Try.f8.body)[9]? = some o ∧ o.dst = some 5 ∧ o.op = .call { callee := .value (.func 11), args := #[.tmp 4], argTypes := #[25] } ∧ o.guard = none := ⟨_, rfl, rfl, rfl, rfl⟩
    simp only at h1 h2 h3
    subst h1 h2 h3
    refine wpOp_step ho (fun K' hK' => ?_)
    have e8 := hneed 8 (by kernel_rfl)
    rw [ha]
    unfold fr
    go_simp
    refine (tasks_any p g n zs s r w hl hz (hP.below hA.below hp hg) hb hs hs').mono ?_
    rintro e w' ⟨rfl, hbw⟩
    rw [HM.out]
    refine hK' _ _ ⟨B, D, hA.quiet (i := 9) (by simp) (by omega) hbw ?_⟩
    simp [fr, upd, e8]
  · have e9 := hneed 9 (by kernel_rfl)
    exact hA.insert hm hr 11 (by omega) _ rfl rfl rfl rfl (by simp [fr, Act.eval, e9, vl]) (hneed 0 (by kernel_rfl)) hLi (by simp [fr, upd, ix])
  · obtain ⟨⟨dst, op, type, pos, after, guard⟩, ho, h1, h2, h3⟩ : ∃ o, (regionOf Try.f8.body)[11]? = some o ∧ o.dst = some 6 ∧ o.op = .move (.tmp 0) ∧ o.guard = none := ⟨_, rfl, rfl, rfl, rfl⟩
    simp only at h1 h2 h3
    subst h1 h2 h3
    refine wpOp_step ho (fun K' hK' => ?_)
    rw [ha]
    unfold fr
    go_simp
    refine hK' _ _ ⟨B, D, hA.quiet (i := 11) (by simp) (by omega) (Below.refl _ _) ?_⟩
    simp [fr, upd]
  · obtain ⟨⟨dst, op, type, pos, after, guard⟩, ho, h1, h2, h3⟩ : ∃ o, (regionOf Try.f8.body)[12]? = some o ∧ o.dst = some 7 ∧ o.op = .nilCheck (.tmp 6) ∧ o.guard = none := ⟨_, rfl, rfl, rfl, rfl⟩
    simp only at h1 h2 h3
    subst h1 h2 h3
    refine wpOp_step ho (fun K' hK' => ?_)
    have e11 := hneed 11 (by kernel_rfl)
    rw [ha]
    unfold fr
    go_simp
    refine hK' _ _ ⟨B, D, hA.quiet (i := 12) (by simp) (by omega) (Below.refl _ _) ?_⟩
    simp [fr, upd, e11]
  · obtain ⟨⟨dst, op, type, pos, after, guard⟩, ho, h1, h2, h3⟩ : ∃ o, (regionOf Try.f8.body)[13]? = some o ∧ o.dst = some 8 ∧ o.op = .fieldAddr 44 (.tmp 7) 0 ∧ o.guard = none := ⟨_, rfl, rfl, rfl, rfl⟩
    simp only at h1 h2 h3
    subst h1 h2 h3
    refine wpOp_step ho (fun K' hK' => ?_)
    have e12 := hneed 12 (by kernel_rfl)
    rw [ha]
    unfold fr
    go_simp
    refine hK' _ _ ⟨B, D, hA.quiet (i := 13) (by simp) (by omega) (Below.refl _ _) ?_⟩
    simp [fr, upd, e12]
  · obtain ⟨⟨dst, op, type, pos, after, guard⟩, ho, h1, h2, h3⟩ : ∃ o, (regionOf Try.f8.body)[14]? = some o ∧ o.dst = some 9 ∧ o.op = .fieldAddr 40 (.tmp 8) 2 ∧ o.guard = none := ⟨_, rfl, rfl, rfl, rfl⟩
    simp only at h1 h2 h3
    subst h1 h2 h3
    refine wpOp_step ho (fun K' hK' => ?_)
    have e13 := hneed 13 (by kernel_rfl)
    rw [ha]
    unfold fr
    go_simp
    refine hK' _ _ ⟨B, D, hA.quiet (i := 14) (by simp) (by omega) (Below.refl _ _) ?_⟩
    simp [fr, upd, e13]
  · obtain ⟨⟨dst, op, type, pos, after, guard⟩, ho, h1, h2, h3⟩ : ∃ o, (regionOf Try.f8.body)[15]? = some o ∧ o.dst = some 10 ∧ o.op = .load 3 (.tmp 9) ∧ o.guard = none := ⟨_, rfl, rfl, rfl, rfl⟩
    simp only at h1 h2 h3
    subst h1 h2 h3
    refine wpOp_step ho (fun K' hK' => ?_)
    have e14 := hneed 14 (by kernel_rfl)
    have hc := (hP.below hA.below hp hg).reduce
    rw [ha]
    unfold fr
    go_simp
    refine hK' _ _ ⟨B, D, hA.quiet (i := 15) (by simp) (by omega) (Below.refl _ _) ?_⟩
    simp [fr, upd, e14]
  · have e15 := hneed 15 (by kernel_rfl)
    exact hA.insert hm hr 12 (by omega) _ rfl rfl rfl rfl (by simp [fr, Act.eval, e15, vl]) (hneed 0 (by kernel_rfl)) hLi (by simp [fr, upd, ix])
  · exact hA.insert hm hr 7 (by omega) _ rfl rfl rfl rfl rfl (hneed 0 (by kernel_rfl)) hLi (by simp [fr, upd, ix])
  · exact hA.insert hm hr 8 (by omega) _ rfl rfl rfl rfl rfl (hneed 0 (by kernel_rfl)) hLi (by simp [fr, upd, ix])
  · exact hA.insert hm hr 9 (by omega) _ rfl rfl rfl rfl rfl (hneed 0 (by kernel_rfl)) hLi (by simp [fr, upd, ix])
  · exact hA.insert hm hr 10 (by omega) _ rfl rfl rfl rfl rfl (hneed 0 (by kernel_rfl)) hLi (by simp [fr, upd, ix])
  · obtain ⟨⟨dst, op, type, pos, after, guard⟩, ho, h1, h2, h3⟩ : ∃ o, (regionOf Try.f8.body)[21]? = some o ∧ o.dst = some 11 ∧ o.op = .move (.tmp 3) ∧ o.guard = none := ⟨_, rfl, rfl, rfl, rfl⟩
    simp only at h1 h2 h3
    subst h1 h2 h3
    refine wpOp_step ho (fun K' hK' => ?_)
    have e0 := hneed 0 (by kernel_rfl)
    rw [ha]
    unfold fr
    go_simp
    refine hK' _ _ ⟨B, D, hA.quiet (i := 21) (by simp) (fun _ => e0) (Below.refl _ _) ?_⟩
    simp [fr, upd, e0]
  · obtain ⟨⟨dst, op, type, pos, after, guard⟩, ho, h1, h2, h3⟩ : ∃ o, (regionOf Try.f8.body)[22]? = some o ∧ o.dst = some 2 ∧ o.op = .assign (.tmp 11) ∧ o.guard = none := ⟨_, rfl, rfl, rfl, rfl⟩
    simp only at h1 h2 h3
    subst h1 h2 h3
    refine wpOp_step ho (fun K' hK' => ?_)
    have e0 := hneed 0 (by kernel_rfl)
    have e21 := hneed 21 (by kernel_rfl)
    rw [ha]
    unfold fr
    go_simp
    refine hK' _ _ ⟨B, D, hA.quiet (i := 22) (by simp) (fun _ => e0) (Below.refl _ _) ?_⟩
    simp [fr, upd, e0, e21]

theorem ready_end {ops : Array Oper} {listed : Array Bool} (hs : listed.size = ops.size) (hlex : ∀ i, i < ops.size → ∀ o, ops[i]? = some o → ∀ e ∈ o.after, e.on < i) (h : Region.ready .any ops listed = []) : ∀ i, i < ops.size → listed.getD i false = true := by
  intro i
  induction i using Nat.strongRecOn with
  | ind i ih =>
    intro hi
    cases hv : listed.getD i false with
    | true => rfl
    | false =>
      have hm : i ∈ Region.ready .any ops listed := by
        refine mem_ready.2 ⟨?_, ops[i], by simp [hi], fun e he _ => ih e.on (hlex i hi ops[i] (by simp [hi]) e he) (Nat.lt_trans (hlex i hi ops[i] (by simp [hi]) e he) hi)⟩
        have hi' : i < listed.size := by omega
        simpa [hi'] using hv
      rw [h] at hm
      cases hm

/-- Every edge of the literal's region leads back. -/
def backB (ops : Array Oper) : Bool := (List.range ops.size).all (fun i => match ops[i]? with | some o => o.after.all (fun e => decide (e.on < i)) | none => true)
theorem back_of {ops : Array Oper} (h : backB ops = true) : ∀ i, i < ops.size → ∀ o, ops[i]? = some o → ∀ e ∈ o.after, e.on < i := by
  intro i hi o ho e he
  have := List.all_eq_true.1 h i (by simpa using hi)
  simp only [ho, Array.all_eq_true_iff_forall_mem] at this
  exact of_decide_eq_true (this e he)
theorem back8 : backB (regionOf Try.f8.body) = true := by kernel_rfl
theorem size8 : (regionOf Try.f8.body).size = 23 := by kernel_rfl

theorem rep_false (k : Nat) : (Array.replicate 23 false).getD k false = false := by
  rw [Array.getD_eq_getD_getElem?, Array.getElem?_replicate]
  split <;> rfl

/-- **The counters before any task has run.** -/
theorem counters_any (p g n : Nat) (zs : List Int) (s r : Int) (w : World) (hl : n ≤ 1048576) (hz : zs.length = n) (hP : Plan w p g n zs s r)
    (hb : ∀ i, 0 ≤ zs.getD i 0 ∧ zs.getD i 0 ≤ 9223372036854775807) (hs : 0 < s) (hs' : s ≤ 9223372036854775807) (hr : (Lit.int .i64 r).wf = true) :
    Calls Try.prog 8 #[.pointer (some ⟨p, 0, none⟩)] w fun e w' => ∃ (B : Nat) (D : DataW Unit), e = .returned (.map (some B)) ∧ w.heap.size ≤ B ∧ Owns w' B 13 D ∧ Fresh D (mt s zs) r ∧ Below w.heap.size w w' := by
  have HB : Hid (∀ i, 0 ≤ zs.getD i 0 ∧ zs.getD i 0 ≤ 9223372036854775807) := hb
  clear hb
  go_enter Try.func8, Try.ntmps8
  go_wp2
  refine wp_region_any (by kernel_rfl) ?_
  refine wpAny_inv (ops := regionOf Try.f8.body) (I := fun listed a w' => listed.size = 23 ∧ Inv w p (mt s zs) r (fun k => listed.getD k false) a w') ?_ ?_ 23 (Array.replicate 23 false) _ _ (by decide) ⟨by simp, 0, .map [], ?_, (Below.refl _ _).drew, fun e => ?_, fun _ => ⟨?_, ?_, fun j hj => ?_⟩⟩
  · intro listed a w' ⟨hsz, B, D, hA⟩ hend
    have hall := ready_end (by rw [size8]; exact hsz) (back_of back8) hend
    rw [size8] at hall
    have e0 := hall 0 (by omega)
    have e22 := hall 22 (by omega)
    obtain ⟨hB, hown, hpart⟩ := hA.made e0
    have hfr := hpart.fresh (fun j hj => hall (ix j) (by unfold ix; split <;> omega))
    have hbel := hA.below
    have hown' := World.ownsMap.mono hown (cnt_le _)
    have ha := hA.frame
    clear hpart hA hall hown hend
    subst ha
    unfold fr
    simp only [e0, e22, cond_true]
    go_wp2
    go_ret
    exact ⟨B, D, rfl, hB, hown', hfr, hbel⟩
  · intro listed a w' ⟨hsz, hI⟩ i hi
    refine wpOp_mono (fun a' w'' h => ⟨by simpa using hsz, h⟩) (region_step w p g n zs s r hl hz hP HB.out hs hs' hr listed a w' hsz hI i hi)
  · simp only [fr, rep_false, cond_false]
  · rw [rep_false] at e; cases e
  · exact rep_false _
  · exact rep_false _
  · exact rep_false _

end Go.Proofs.Qxb6632538a
