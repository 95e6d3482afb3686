/-
  A region that draws its order, walked once in the order of the text: loads and what only reckons may come up whenever
  they like, so long as a condition on the world holds behind every operation that can come up before them; the others
  come up in the order of the text.
-/
import Derived.OrdersHeld
import Derived.Deep.RegionHeld
namespace Go.Ord
set_option linter.unusedVariables false
section
variable {P : Program} {ops : Array Oper} {Q : Exit → Act → World → Prop} {md : Region.Mode} {S : World → Prop} {nd tk : Nat → Bool}

/-- Whatever order is picked; S is shown behind those operations that 'nd' names. -/
def AnyN (P : Program) (md : Region.Mode) (ops : Array Oper) (Q : Exit → Act → World → Prop) (S : World → Prop) (nd : Nat → Bool) : Nat → Array Bool → Act → World → Prop
  | 0, listed, a, w => Region.ready md ops listed = [] ∧ Q .normal a w
  | fuel + 1, listed, a, w => (Region.ready md ops listed = [] → Q .normal a w) ∧
    ∀ i ∈ Region.ready md ops listed, wpOp P ops Q i (fun a' w' => (nd i = true → S w') ∧ AnyN P md ops Q S nd fuel (listed.setIfInBounds i true) a' w') a w
theorem AnyN.any : ∀ (fuel : Nat) (listed : Array Bool) (a : Act) (w : World), AnyN P md ops Q S nd fuel listed a w → wpAny P md ops Q fuel listed a w
  | 0, _, _, _, h => h
  | fuel + 1, _, _, _, h => ⟨h.1, fun i hi => wpOp_mono (fun a' w' h' => AnyN.any fuel _ a' w' h'.2) (h.2 i hi)⟩
theorem AnyN.first {i : Nat} {oi : Oper} {v : Value} (hi : ops[i]? = some oi) (hsel : ∀ (j : Nat) (o : Oper) cs b, ops[j]? = some o → o.op ≠ .select cs b)
    (hQ : ∀ c a w, Q (.panic c) (a.put oi.dst v) w → Q (.panic c) a w)
    (hnd : ∀ j oj, ops[j]? = some oj → nd j = false → j ≠ i → ∃ e ∈ oj.after, Region.binds md e = true ∧ e.on = i) :
    ∀ (fuel : Nat) (listed : Array Bool) (a : Act) (w : World),
      (∀ j oj, ops[j]? = some oj → j ≠ i → listed.getD j true = false → (∀ e ∈ oj.after, Region.binds md e = true → e.on ≠ i) → oi.apart ops oj = true) →
      i ∈ Region.ready md ops listed → YieldsIf P ops S oi v a → S w →
      AnyN P md ops Q S nd fuel (listed.setIfInBounds i true) (a.put oi.dst v) w → AnyN P md ops Q S nd (fuel + 1) listed a w := by
  intro fuel
  induction fuel with
  | zero =>
    intro listed a w _ hr hy hS H
    refine ⟨fun h => (by rw [h] at hr; cases hr), fun j hj => ?_⟩
    by_cases hji : j = i
    · subst hji; exact hy.wpOp hi hS ⟨fun _ => hS, H⟩
    · have := ready_mono hj hji
      rw [H.1] at this
      cases this
  | succ fuel ih =>
    intro listed a w hfree hr hy hS H
    refine ⟨fun h => (by rw [h] at hr; cases hr), fun j hj => ?_⟩
    by_cases hji : j = i
    · subst hji; exact hy.wpOp hi hS ⟨fun _ => hS, H⟩
    · have h1 := H.2 j (ready_mono hj hji)
      obtain ⟨hjun, oj, hoj, hall⟩ := mem_ready.1 hj
      have hnot : ∀ e ∈ oj.after, Region.binds md e = true → e.on ≠ i := fun e he hb heq => by
        have h1 := hall e he hb
        have h0 := (mem_ready.1 hr).1
        rw [heq] at h1
        rcases Nat.lt_or_ge i listed.size with h' | h'
        · simp [h'] at h0 h1; rw [h0] at h1; cases h1
        · simp [Array.getElem?_eq_none h'] at h1
      have hn : nd j = true := by
        cases hq : nd j with
        | true => rfl
        | false =>
          obtain ⟨e, e1, e2, e3⟩ := hnd j oj hoj hq hji
          exact absurd e3 (hnot e e1 e2)
      have h2 := wpOp_putIf hoj (hfree j oj hoj hji hjun hnot) (fun cs b => hsel i oi cs b hi) (fun cs b => hsel j oj cs b hoj) hQ hy h1
      have hfree' : ∀ k ok, ops[k]? = some ok → k ≠ i → (listed.setIfInBounds j true).getD k true = false →
          (∀ e ∈ ok.after, Region.binds md e = true → e.on ≠ i) → oi.apart ops ok = true := fun k ok hk hki hun hno => by
        refine hfree k ok hk hki ?_ hno
        by_cases hjk : j = k
        · subst hjk; exact hjun
        · rw [getD_set_ne true hjk] at hun; exact hun
      refine wpOp_mono (fun a' w' h3 => ⟨h3.2.1, ih (listed.setIfInBounds j true) a' w' hfree' (ready_mono hr (Ne.symm hji)) h3.1 (h3.2.1 hn) ?_⟩) h2
      rw [Array.setIfInBounds_comm _ _ hji]
      exact h3.2.2
/-- The order of the text: 'tk' names what may be taken first. -/
def LexN (P : Program) (ops : Array Oper) (Q : Exit → Act → World → Prop) (S : World → Prop) (nd tk : Nat → Bool) : List Oper → Nat → Act → World → Prop
  | [], _, a, w => Q .normal a w
  | o :: rest, k, a, w => if tk k = true then S w ∧ ∃ v, YieldsIf P ops S o v a ∧ LexN P ops Q S nd tk rest (k + 1) (a.put o.dst v) w
      else wpOp P ops Q k (fun a' w' => (nd k = true → S w') ∧ LexN P ops Q S nd tk rest (k + 1) a' w') a w
def waitB (md : Region.Mode) (ops : Array Oper) (nd : Nat → Bool) (k : Nat) : Bool :=
  (List.range ops.size).all fun j => nd j || j == k || match ops[j]? with
    | some oj => oj.after.any (fun e => Region.binds md e && e.on == k)
    | none => true
def lexNB (md : Region.Mode) (ops : Array Oper) (nd tk : Nat → Bool) : Nat → Nat → Array Bool → Bool
  | 0, _, listed => (Region.ready md ops listed).isEmpty
  | fuel + 1, k, listed => (if tk k then (Region.ready md ops listed).contains k && Region.free md ops listed k && waitB md ops nd k else Region.ready md ops listed == [k]) && lexNB md ops nd tk fuel (k + 1) (listed.setIfInBounds k true)
theorem waitB_spec {k : Nat} (h : waitB md ops nd k = true) : ∀ j oj, ops[j]? = some oj → nd j = false → j ≠ k → ∃ e ∈ oj.after, Region.binds md e = true ∧ e.on = k := by
  intro j oj hj hn hne
  simp only [waitB, List.all_eq_true, List.mem_range] at h
  have h1 := h j (Array.getElem?_eq_some_iff.1 hj).1
  simp only [hj, hn, Bool.or_eq_true, beq_iff_eq, hne, Bool.false_eq_true, false_or] at h1
  obtain ⟨e, he, hb⟩ := Array.any_eq_true'.1 h1
  simp only [Bool.and_eq_true, beq_iff_eq] at hb
  exact ⟨e, he, hb⟩
theorem lexN_any (hs : Region.noSelect ops = true) (hQ : ∀ c a d v w, Q (.panic c) (a.put d v) w → Q (.panic c) a w) : ∀ (l : List Oper) (k : Nat) (listed : Array Bool) (a : Act) (w : World), (∀ j, l[j]? = ops[k + j]?) →
    lexNB md ops nd tk l.length k listed = true → LexN P ops Q S nd tk l k a w → AnyN P md ops Q S nd l.length listed a w
  | [], _, _, _, _, _, hB, h => ⟨by simpa [lexNB] using hB, h⟩
  | o :: l, k, listed, a, w, hl, hB, h => by
    have h0 : ops[k]? = some o := by simpa using (hl 0).symm
    simp only [List.length_cons, lexNB, Bool.and_eq_true] at hB
    obtain ⟨hc, hB'⟩ := hB
    have hl' : ∀ j, l[j]? = ops[k + 1 + j]? := fun j => by have := hl (j + 1); simpa [Nat.add_assoc, Nat.add_comm 1 j] using this
    by_cases ht : tk k = true
    · rw [if_pos ht] at hc
      simp only [Bool.and_eq_true] at hc
      obtain ⟨⟨hr, hf⟩, hw⟩ := hc
      simp only [LexN, if_pos ht] at h
      obtain ⟨hS, v, hy, hK⟩ := h
      exact AnyN.first h0 (Region.noSelect_spec hs) (fun c a w => hQ c a _ _ w) (waitB_spec hw) l.length listed a w (Region.free_spec h0 hf) (by simpa using hr) hy hS
        (lexN_any hs hQ l (k + 1) _ _ _ hl' hB' hK)
    · rw [if_neg ht] at hc
      have hr : Region.ready md ops listed = [k] := by simpa using hc
      simp only [LexN, if_neg ht] at h
      refine ⟨fun h' => (by rw [hr] at h'; cases h'), fun i hi => ?_⟩
      rw [hr] at hi
      simp at hi
      subst hi
      exact wpOp_mono (fun a' w' h3 => ⟨h3.1, lexN_any hs hQ l (i + 1) _ _ _ hl' hB' h3.2⟩) h
theorem wp_lex {id : Nat} {a : Act} {w : World} {l : List Oper} (S : World → Prop) (nd tk : Nat → Bool) (hm : P.follows .mixedOrders = true) (hs : Region.noSelect l.toArray = true) (hB : lexNB .any l.toArray nd tk l.length 0 (Array.replicate l.length false) = true)
    (hQ : ∀ c a d v w, Q (.panic c) (a.put d v) w → Q (.panic c) a w) (h : LexN P l.toArray Q S nd tk l 0 a w.drew) : (Code.region id l.toArray true).wp P Q a w := by
  refine wp_region_any hm (AnyN.any (S := S) (nd := nd) _ _ _ _ ?_)
  have := lexN_any (md := .any) hs hQ l 0 (Array.replicate l.length false) a w.drew (by simp) hB h
  simpa using this
theorem LexN.take {o : Oper} {rest : List Oper} {k : Nat} {a : Act} {w : World} (ht : tk k = true) (hS : S w) (v : Value) (hw : Region.wanted o (yielded ops a.tmps) = true) (hy : ∀ z, S z → (execOp a.eval o).run P z = .ok (.value v) z)
    (h : LexN P ops Q S nd tk rest (k + 1) (a.put o.dst v) w) : LexN P ops Q S nd tk (o :: rest) k a w := by
  simp only [LexN, if_pos ht]
  exact ⟨hS, v, .inl ⟨hw, hy⟩, h⟩
theorem LexN.step {o : Oper} {rest : List Oper} {k : Nat} {a : Act} {w : World} (ht : tk k = false) (ho : ops[k]? = some o) (hw : Region.wanted o (yielded ops a.tmps) = true)
    (h : ∀ K : Act → World → Prop, Shut (∀ a' w', (nd k = true → S w') → LexN P ops Q S nd tk rest (k + 1) a' w' → K a' w') → Oper.wp P o a w K Q) : LexN P ops Q S nd tk (o :: rest) k a w := by
  simp only [LexN, ht, Bool.false_eq_true, if_false]
  refine wpOp_step ho (fun K' hK => ?_)
  rw [if_pos hw]
  exact h K' (fun a' w' h1 h2 => hK a' w' ⟨h1, h2⟩)
theorem LexN.nil {k : Nat} {a : Act} {w : World} (h : Q .normal a w) : LexN P ops Q S nd tk [] k a w := h
end
end Go.Ord
