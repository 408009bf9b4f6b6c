/- A region that draws its order, by an invariant over what has come up; the data of a fresh map, insert by insert. -/
import Derived.Test.Qxb6632538aShape
import Derived.Test.Qxb6632538aTasks
namespace Go.Proofs.Qxb6632538a
open Go.RowKit Go.Maps

theorem rank_set {listed : Array Bool} {i : Nat} (h : listed.getD i true = false) : (listed.setIfInBounds i true).toList.count false + 1 = listed.toList.count false := by
  have hi : i < listed.size := by
    rcases Nat.lt_or_ge i listed.size with h' | h'
    · exact h'
    · simp [Array.getElem?_eq_none h'] at h
  have hv : listed.toList[i]'(by simpa using hi) = false := by simpa [hi] using h
  rw [Array.toList_setIfInBounds, List.count_set (by simpa using hi), hv]
  have hp : 0 < listed.toList.count false := List.count_pos_iff.2 (hv ▸ List.getElem_mem _)
  rw [if_pos (by decide), if_neg (by decide)]
  omega

theorem ready_nil {md : Region.Mode} {ops : Array Oper} {listed : Array Bool} (h : listed.toList.count false = 0) : Region.ready md ops listed = [] := by
  cases hr : Region.ready md ops listed with
  | nil => rfl
  | cons i r =>
    have hi := (mem_ready.1 (show i ∈ Region.ready md ops listed by rw [hr]; simp)).1
    have := rank_set hi
    omega

/-- **A REGION BY AN INVARIANT**: whatever order is picked, what holds of (what has come up, the frame, the world) at the start and is kept by every operation that may come up holds at the end. -/
theorem wpAny_inv {P : Program} {md : Region.Mode} {ops : Array Oper} {Q : Exit → Act → World → Prop} {I : Array Bool → Act → World → Prop}
    (hend : ∀ listed a w, I listed a w → Region.ready md ops listed = [] → Q .normal a w)
    (hstep : ∀ listed a w, I listed a w → ∀ i ∈ Region.ready md ops listed, wpOp P ops Q i (fun a' w' => I (listed.setIfInBounds i true) a' w') a w) :
    ∀ (fuel : Nat) (listed : Array Bool) (a : Act) (w : World), listed.toList.count false ≤ fuel → I listed a w → wpAny P md ops Q fuel listed a w
  | 0, listed, a, w, hf, h => ⟨ready_nil (by omega), hend listed a w h (ready_nil (by omega))⟩
  | fuel + 1, listed, a, w, hf, h => ⟨fun h0 => hend listed a w h h0, fun i hi =>
      wpOp_mono (fun a' w' h' => wpAny_inv hend hstep fuel _ a' w' (by have := rank_set (mem_ready.1 hi).1; omega) h') (hstep listed a w h i hi)⟩

theorem wpOp_of {P : Program} {ops : Array Oper} {Q : Exit → Act → World → Prop} {i : Nat} {o : Oper} {K : Act → World → Prop} {a : Act} {w : World} (ho : ops[i]? = some o) (hg : o.guard = none) (h : Oper.wp P o a w K Q) : wpOp P ops Q i K a w := by
  unfold wpOp
  rw [ho]
  simp only [Region.wanted, hg, if_true]
  exact .inl h

/-- An operation that yields a value. -/
theorem wpOp_value {P : Program} {ops : Array Oper} {Q : Exit → Act → World → Prop} {i : Nat} {o : Oper} {K : Act → World → Prop} {a : Act} {w w' : World} {v : Value} (ho : ops[i]? = some o) (hg : o.guard = none)
    (hr : (execOp a.eval o).run P w = .ok (.value v) w') (h : K (a.put o.dst v) w') : wpOp P ops Q i K a w := by
  refine wpOp_of ho hg ?_
  unfold Oper.wp
  rw [hr]
  exact h

/-- An entry of a map's literal. -/
theorem wpOp_insert {ops : Array Oper} {Q : Exit → Act → World → Prop} {i : Nat} {o : Oper} {K : Act → World → Prop} {a : Act} {w : World} (ho : ops[i]? = some o) (hg : o.guard = none) (x : Operand) (s : ByteArray)
    (hop : o.op = Op.insert 28 (.tmp 3) (.const (.string s)) x) (hs : s.size ≤ maxLen) (v : Int) (B n : Nat) (D : DataW Unit) (hm : a.eval (.tmp 3) = .map (some B)) (hx : a.eval x = .int .i64 v) (hv : (Lit.int .i64 v).wf = true)
    (hown : Owns w B n D) (hn : n < maxLen) (hK : ∀ w', Owns w' B (n + 1) (D.put (kl s) (i64 v)) → w.grownBy w' (some B) → K (a.put o.dst undef) w') : wpOp Try.prog ops Q i K a w := by
  refine wpOp_of ho hg ?_
  obtain ⟨w', hrun, r1, r2⟩ := World.ownsMap.update hown law9 under28 hn (key_of s hs) (plainElem_int Try.underlying2 hv)
  have hc : a.eval (.const (.string s)) = .string s := rfl
  unfold Oper.wp
  simp [execOp, hop, hm, hx, hc, hrun, Result.andThen]
  exact hK w' r1 r2

/-! ### the data -/
/-- Which operation of the literal inserts name j. -/
def ix : Nat → Nat
  | 0 => 1 | 1 => 2 | 2 => 3 | 3 => 4 | 4 => 5 | 5 => 6 | 6 => 7 | 7 => 17 | 8 => 18 | 9 => 19 | 10 => 20 | 11 => 10 | _ => 16
/-- What it inserts. -/
def vl (m r : Int) : Nat → Int
  | 11 => m | 12 => r | _ => 0

theorem ix_inj : ∀ i, i < 13 → ∀ j, j < 13 → ix i = ix j → i = j := by decide
theorem zname_inj : ∀ i, i < 13 → ∀ j, j < 13 → (zname i).data.toList = (zname j).data.toList → i = j := by decide
theorem kl_ne {i j : Nat} (hi : i < 13) (hj : j < 13) (h : i ≠ j) : kl (zname i) ≠ kl (zname j) := by
  intro e
  simp only [kl, Lit.string.injEq] at e
  exact h (zname_inj i hi j hj e)

def upd (L : Nat → Bool) (i : Nat) : Nat → Bool := fun k => if k = i then true else L k
def cnt (L : Nat → Bool) : Nat := (List.range 13).countP (fun j => L (ix j))

theorem cnt_upd {L : Nat → Bool} {j : Nat} (hj : j < 13) (h : L (ix j) = false) : cnt (upd L (ix j)) = cnt L + 1 := by
  have key : ∀ l : List Nat, (∀ x ∈ l, x < 13) → l.Nodup → l.countP (fun x => upd L (ix j) (ix x)) = l.countP (fun x => L (ix x)) + (if j ∈ l then 1 else 0) := by
    intro l
    induction l with
    | nil => intro _ _; simp
    | cons y l ih =>
      intro hl hn
      obtain ⟨hn1, hn2⟩ := List.nodup_cons.1 hn
      have ih' := ih (fun x hx => hl x (by simp [hx])) hn2
      by_cases e : y = j
      · subst e
        rw [if_neg hn1] at ih'
        simp [upd, h] at ih' ⊢
        exact ih'
      · have e' : ix y ≠ ix j := fun e'' => e (ix_inj y (hl y (by simp)) j hj e'')
        have e3 : j ≠ y := fun x => e x.symm
        simp [List.countP_cons, upd, e', e3] at ih' ⊢
        omega
  have := key (List.range 13) (by simp) List.nodup_range
  rw [if_pos (by simpa using hj)] at this
  exact this

theorem cnt_le (L : Nat → Bool) : cnt L ≤ 13 := by
  have := List.countP_le_length (p := fun j => L (ix j)) (l := List.range 13)
  simpa [cnt] using this

/-- What the map holds once the inserts that L marks have come up. -/
structure Part (L : Nat → Bool) (m r : Int) (D : DataW Unit) : Prop where
  size : Maps.size D = cnt L
  has : ∀ j, j < 13 → Maps.has D (kl (zname j)) = L (ix j)
  other : ∀ k, (∀ j, j < 13 → k ≠ kl (zname j)) → Maps.has D k = false
  val : ∀ j, j < 13 → L (ix j) = true → D.atKey (kl (zname j)) (i64 0) = i64 (vl m r j)

theorem part_empty {L : Nat → Bool} {m r : Int} (h : ∀ j, j < 13 → L (ix j) = false) : Part L m r (.map []) := by
  refine ⟨?_, fun j hj => by rw [h j hj]; rfl, fun _ _ => rfl, fun j hj e => by rw [h j hj] at e; cases e⟩
  have : cnt L = 0 := by
    unfold cnt
    rw [List.countP_eq_zero]
    intro j hj
    simp [h j (by simpa using hj)]
  rw [this]; rfl

theorem Part.put {L : Nat → Bool} {m r : Int} {D : DataW Unit} (h : Part L m r D) (ht : Tidy D) {j : Nat} (hj : j < 13) (hL : L (ix j) = false) : Part (upd L (ix j)) m r (D.put (kl (zname j)) (i64 (vl m r j))) := by
  refine ⟨?_, fun i hi => ?_, fun k hk => by rw [has_put_other (hk j hj)]; exact h.other k hk, fun i hi e => ?_⟩
  · rw [size_put ht, h.has j hj, hL, cnt_upd hj hL, h.size]; rfl
  · by_cases e : i = j
    · subst e
      rw [has_put_same ht.isMap (by trivial)]
      simp [upd]
    · rw [has_put_other (kl_ne hi hj e), h.has i hi]
      have e' : ix i ≠ ix j := fun x => e (ix_inj i hi j hj x)
      simp [upd, e']
  · by_cases e0 : i = j
    · subst e0
      rw [atKey_put_same ht.isMap (by trivial)]
    · rw [atKey_put_other (kl_ne hi hj e0)]
      have e' : ix i ≠ ix j := fun x => e0 (ix_inj i hi j hj x)
      exact h.val i hi (by simpa [upd, e'] using e)

theorem Part.fresh {L : Nat → Bool} {m r : Int} {D : DataW Unit} (h : Part L m r D) (hL : ∀ j, j < 13 → L (ix j) = true) : Fresh D m r := by
  refine ⟨?_, fun i hi => by rw [h.has i hi, hL i hi], h.other, fun i hi => ?_, ?_, ?_⟩
  · rw [h.size]
    unfold cnt
    rw [List.countP_eq_length.2 (fun j hj => hL j (by simpa using hj))]
    rfl
  · have := h.val i (by omega) (hL i (by omega))
    have hv : vl m r i = 0 := by unfold vl; split <;> first | omega | rfl
    rw [hv] at this
    exact this
  · exact h.val 11 (by omega) (hL 11 (by omega))
  · exact h.val 12 (by omega) (hL 12 (by omega))

end Go.Proofs.Qxb6632538a
