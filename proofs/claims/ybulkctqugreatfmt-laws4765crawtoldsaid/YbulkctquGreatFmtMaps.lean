/-
  What is of no program: maps that the call itself owns, told as functions of their keys.
-/
import Derived.Test.YbulkctquGreatFmtHeap
import Derived.Maps.OwnOps
import Derived.Laws.StructEq
namespace Go.Ord
open Go.RowKit
set_option linter.unusedSectionVars false
open Go.ChangeMaps (setBlock heap_setBlock_same heap_setBlock_other)

/-- How a key type's values are told: kv is one to one; what the model's search for a key asks. -/
structure KeyLaw (P : Program) (kt : TypeId) {κ : Type} [DecidableEq κ] (kv : κ → Value) : Prop where
  eq : ∀ (a b : κ) (w : World), (Op.equal kt (kv a) (kv b)).run P w = .ok (decide (a = b)) w
  now : ∃ d, P.underlying kt = some d ∧ ((∀ a b, Instr.sameNow d (kv a) (kv b) = some (decide (a = b))) ∨ (∀ a b, Instr.sameNow d (kv a) (kv b) = none))
  check : ∀ (em : Bool) (a : κ) (w : World), (Instr.checkKey em 10000 kt (kv a)).run P w = .ok () w
  bits : ∀ a : κ, Instr.sameBits 10000 (kv a) (kv a) = true

section
variable {κ : Type} [DecidableEq κ] {kv : κ → Value} {P : Program} {kt : TypeId}

def ent (kv : κ → Value) (x : κ × Value × Nat) : MapEntry := { key := kv x.1, val := x.2.1, born := x.2.2 }
def idx (k : κ) : List (κ × Value × Nat) → Nat → Option (Nat × Value)
  | [], _ => none
  | x :: r, i => if k = x.1 then some (i, x.2.1) else idx k r (i + 1)

theorem findNow_yes {d : TypeDesc} (h : ∀ a b, Instr.sameNow d (kv a) (kv b) = some (decide (a = b))) (k : κ) : ∀ (es : List (κ × Value × Nat)) (i : Nat), Instr.findNow d (kv k) (es.map (ent kv)) i = some (idx k es i)
  | [], i => rfl
  | x :: r, i => by
    have h1 := h k x.1
    have h2 := findNow_yes h k r (i + 1)
    by_cases hk : k = x.1
    · simp [Instr.findNow, ent, idx, hk]
      subst hk; simp [h1]
    · simp only [List.map_cons, Instr.findNow, idx, if_neg hk]
      rw [show (ent kv x).key = kv x.1 from rfl, h1]
      simp only [hk, decide_false]
      exact h2
theorem findAsking_run (K : KeyLaw P kt kv) (k : κ) (w : World) : ∀ (es : List (κ × Value × Nat)) (i : Nat), (Instr.findAsking kt (kv k) (es.map (ent kv)) i).run P w = .ok (idx k es i) w
  | [], i => by simp [Instr.findAsking, idx]
  | x :: r, i => by
    have h1 := K.eq k x.1 w
    have h2 := findAsking_run K k w r (i + 1)
    simp only [List.map_cons, Instr.findAsking, idx, Sem.run_bind]
    rw [show (ent kv x).key = kv x.1 from rfl, h1]
    by_cases hk : k = x.1
    · simp [hk, ent]
    · simp [hk, h2]
theorem findKey_run (K : KeyLaw P kt kv) (k : κ) (w : World) (es : List (κ × Value × Nat)) : (Instr.findKey kt (kv k) (es.map (ent kv))).run P w = .ok (idx k es 0) w := by
  obtain ⟨d, hd, h | h⟩ := K.now
  · simp [Instr.findKey, run_underlying hd, findNow_yes h]
  · cases es with
    | nil => simp [Instr.findKey, run_underlying hd, Instr.findNow, idx]
    | cons x r =>
      have h2 := findAsking_run K k w (x :: r) 0
      have h3 : Instr.findNow d (kv k) ((x :: r).map (ent kv)) 0 = none := by
        simp only [List.map_cons, Instr.findNow]
        rw [show (ent kv x).key = kv x.1 from rfl, h]
      simp only [Instr.findKey, Sem.run_bind, run_underlying hd, Result.andThen_ok, h3, h2]

/-- The map in block b holds f. -/
structure MapAt (w : World) (kv : κ → Value) (b : Nat) (f : κ → Option Value) : Prop where
  lies : ∃ es clock, w.heap[b]? = some (.map (es.map (ent kv)).toArray clock) ∧ (es.map (·.1)).Nodup ∧ ∀ k, (idx k es 0).map (·.2) = f k

theorem MapAt.lt {w : World} {b : Nat} {f : κ → Option Value} (h : MapAt w kv b f) : b < w.heap.size := by
  obtain ⟨es, c, h1, _⟩ := h.lies
  exact lt_of h1
theorem MapAt.keep {w w' : World} {b : Nat} {f : κ → Option Value} {S : List Nat} (h : MapAt w kv b f) (hu : Upd S w w') (hn : b ∉ S) : MapAt w' kv b f := by
  obtain ⟨es, c, h1, h2⟩ := h.lies
  exact ⟨es, c, (hu.block b (lt_of h1) hn).trans h1, h2⟩
theorem MapAt.new (w : World) (kv : κ → Value) : MapAt (w.alloc (.map #[] 0)) kv w.heap.size (fun _ => none) :=
  ⟨[], 0, by show (w.heap.push _)[w.heap.size]? = _; simp, by simp, fun k => by simp [idx]⟩

theorem idx_map (k : κ) : ∀ (es : List (κ × Value × Nat)) (i j : Nat), (idx k es i).map (·.2) = (idx k es j).map (·.2)
  | [], _, _ => rfl
  | x :: r, i, j => by
    by_cases hk : k = x.1
    · simp [idx, hk]
    · simp only [idx, if_neg hk]; exact idx_map k r (i + 1) (j + 1)
theorem idx_none {k : κ} : ∀ {es : List (κ × Value × Nat)} {i : Nat}, idx k es i = none → k ∉ es.map (·.1)
  | [], _, _ => by simp
  | x :: r, i, h => by
    by_cases hk : k = x.1
    · simp [idx, hk] at h
    · simp only [idx, if_neg hk] at h
      have := idx_none h
      simp only [List.map_cons, List.mem_cons, not_or]
      exact ⟨hk, this⟩
theorem idx_some {k : κ} : ∀ {es : List (κ × Value × Nat)} {i j : Nat} {v : Value}, idx k es i = some (j, v) → ∃ m, j = i + m ∧ ∃ y, es[m]? = some y ∧ y.1 = k
  | [], _, _, _, h => by simp [idx] at h
  | x :: r, i, j, v, h => by
    by_cases hk : k = x.1
    · simp [idx, hk] at h
      exact ⟨0, by omega, x, by simp, hk.symm⟩
    · simp only [idx, if_neg hk] at h
      obtain ⟨m, h1, y, h2, h3⟩ := idx_some h
      exact ⟨m + 1, by omega, y, by simpa using h2, h3⟩
theorem idx_append (k : κ) (y : κ × Value × Nat) : ∀ (es : List (κ × Value × Nat)) (i : Nat), idx k (es ++ [y]) i = match idx k es i with | some r => some r | none => if k = y.1 then some (i + es.length, y.2.1) else none
  | [], i => by simp [idx]
  | x :: r, i => by
    by_cases hk : k = x.1
    · simp [idx, hk]
    · simp only [List.cons_append, idx, if_neg hk, List.length_cons]
      rw [idx_append k y r (i + 1)]
      cases idx k r (i + 1) with
      | some r => rfl
      | none =>
        have e : i + 1 + r.length = i + (r.length + 1) := by omega
        simp only [e]
theorem idx_modify (k k' : κ) (v : Value) : ∀ (es : List (κ × Value × Nat)) (i m : Nat) (y : κ × Value × Nat), (es.map (·.1)).Nodup → es[m]? = some y → y.1 = k →
    (idx k' (es.modify m (fun x => (x.1, v, x.2.2))) i).map (·.2) = if k' = k then some v else (idx k' es i).map (·.2)
  | [], _, _, _, _, h, _ => by simp at h
  | x :: r, i, 0, y, hn, h, hy => by
    simp at h
    subst h
    by_cases hk : k' = k
    · simp [idx, hk, hy]
    · simp [idx, hk, hy]
  | x :: r, i, m + 1, y, hn, h, hy => by
    simp only [List.map_cons, List.nodup_cons] at hn
    have hx : x.1 ≠ k := by
      intro e
      apply hn.1
      rw [e, ← hy]
      exact List.mem_map_of_mem (List.mem_of_getElem? (by simpa using h))
    have ih := idx_modify k k' v r (i + 1) m y hn.2 (by simpa using h) hy
    simp only [List.modify_succ_cons, idx]
    by_cases hk : k' = x.1
    · have : k' ≠ k := by rw [hk]; exact hx
      simp [hk, hx]
    · simp only [if_neg hk]
      exact ih
theorem modify_keys (v : Value) : ∀ (es : List (κ × Value × Nat)) (m : Nat), (es.modify m (fun x => (x.1, v, x.2.2))).map (·.1) = es.map (·.1)
  | [], m => by simp
  | x :: r, 0 => by simp
  | x :: r, m + 1 => by simp [modify_keys v r m]

theorem modify_ents (kv : κ → Value) (v : Value) (es : List (κ × Value × Nat)) (j : Nat) (y : κ × Value × Nat) (k : κ) (h6 : es[j]? = some y) (h7 : y.1 = k) :
    (es.map (ent kv)).toArray.modify j (fun e => { e with key := kv k, val := v }) = ((es.modify j (fun x => (x.1, v, x.2.2))).map (ent kv)).toArray := by
  apply Array.ext'
  rw [Array.toList_modify]
  simp only []
  apply List.ext_getElem?
  intro i
  rw [List.getElem?_modify, List.getElem?_map, List.getElem?_map, List.getElem?_modify]
  by_cases e : j = i
  · subst e
    simp [h6, ent, h7]
  · simp [e]

/-- The look-up. -/
theorem MapAt.look {w : World} {b : Nat} {f : κ → Option Value} (h : MapAt w kv b f) (K : KeyLaw P kt kv) {t et : TypeId} (ht : P.underlying t = some (.map kt et)) {z : Value} (hz : ∀ w, (zeroValue et).run P w = .ok z w) (k : κ) (ok : Bool) :
    (Instr.lookup t (.map (some b)) (kv k) ok).run P w = .ok (if ok then .tuple #[(f k).getD z, .bool (f k).isSome] else (f k).getD z) w := by
  obtain ⟨es, c, h1, h2, h3⟩ := h.lies
  have h4 := findKey_run K k w es
  have h5 := h3 k
  simp only [Instr.lookup, Sem.run_bind, run_underlying ht, Result.andThen_ok, MapKept.run_getObj_map h1, Sem.run_pure, K.check, h4]
  cases hq : idx k es 0 with
  | none => rw [hq] at h5; simp at h5; rw [← h5]; cases ok <;> simp [hz]
  | some r => rw [hq] at h5; simp at h5; rw [← h5]; cases ok <;> simp

theorem Upd.block_map {w : World} {b : Nat} {es : Array MapEntry} {c : Nat} (hb : w.heap[b]? = some (.map es c)) (o : Obj) : Upd [b] w (setBlock w b o) :=
  ⟨rfl, rfl, rfl, by simp [setBlock], fun k _ hn => heap_setBlock_other hb _ (by simpa using hn)⟩

/-- The store. -/
theorem MapAt.put {w : World} {b : Nat} {f : κ → Option Value} (h : MapAt w kv b f) (K : KeyLaw P kt kv) {t et : TypeId} (ht : P.underlying t = some (.map kt et)) (k : κ) (v : Value) :
    ∃ w', (Instr.mapUpdate t (.map (some b)) (kv k) v).run P w = .ok () w' ∧ MapAt w' kv b (fun k' => if k' = k then some v else f k') ∧ Upd [b] w w' := by
  obtain ⟨es, c, h1, h2, h3⟩ := h.lies
  have h4 := findKey_run K k w es
  cases hq : idx k es 0 with
  | none =>
    rw [hq] at h4
    refine ⟨setBlock w b (.map (((es ++ [(k, v, c)]).map (ent kv)).toArray) (c + 1)), ?_, ⟨_, _, heap_setBlock_same h1 _, ?_, ?_⟩, Upd.block_map h1 _⟩
    · simp only [Instr.mapUpdate, Sem.run_bind, run_underlying ht, Result.andThen_ok, MapKept.run_getObj_map h1, K.check, h4]
      rw [MapKept.run_setObj_map _ h1]
      simp [setBlock, ent]
    · have := idx_none hq
      rw [List.map_append, List.nodup_append]
      refine ⟨h2, by simp, ?_⟩
      intro a ha b' hb' e
      simp at hb'
      subst hb' e
      exact this ha
    · intro k'
      rw [idx_append]
      have h5 := h3 k'
      cases hq' : idx k' es 0 with
      | none =>
        rw [hq'] at h5
        by_cases e : k' = k
        · simp [e]
        · simp [e]; simpa using h5
      | some r =>
        rw [hq'] at h5
        have e : k' ≠ k := by intro e; subst e; rw [hq] at hq'; cases hq'
        simp [e]; simpa using h5
  | some r =>
    obtain ⟨j, v0⟩ := r
    rw [hq] at h4
    obtain ⟨m, h5, y, h6, h7⟩ := idx_some hq
    simp only [Nat.zero_add] at h5
    subst h5
    refine ⟨setBlock w b (.map (((es.modify j (fun x => (x.1, v, x.2.2))).map (ent kv)).toArray) c), ?_, ⟨_, _, heap_setBlock_same h1 _, ?_, ?_⟩, Upd.block_map h1 _⟩
    · have hb : ((es.map (ent kv)).toArray[j]?.map (·.key)).getD (kv k) = kv k := by
        simp [h6, ent, h7]
      simp only [Instr.mapUpdate, Sem.run_bind, run_underlying ht, Result.andThen_ok, MapKept.run_getObj_map h1, K.check, h4, Instr.keyThatStays, hb, K.bits, if_true, Sem.run_pure]
      rw [MapKept.run_setObj_map _ h1]
      simp only [setBlock]
      rw [modify_ents kv v es j y k h6 h7]
    · rw [modify_keys]; exact h2
    · intro k'
      rw [idx_modify k k' v es 0 j y h2 h6 h7, h3 k']

theorem idx_erase (k k' : κ) : ∀ (es : List (κ × Value × Nat)) (i m : Nat) (y : κ × Value × Nat), (es.map (·.1)).Nodup → es[m]? = some y → y.1 = k →
    (idx k' (es.eraseIdx m) i).map (·.2) = if k' = k then none else (idx k' es i).map (·.2)
  | [], _, _, _, _, h, _ => by simp at h
  | x :: r, i, 0, y, hn, h, hy => by
    simp at h
    subst h
    simp only [List.map_cons, List.nodup_cons] at hn
    by_cases hk : k' = k
    · simp only [List.eraseIdx_zero, List.tail_cons, hk, if_true]
      cases hq : idx k r i with
      | none => rfl
      | some q =>
        obtain ⟨j, v⟩ := q
        obtain ⟨m, _, y, h2, h3⟩ := idx_some hq
        exfalso
        apply hn.1
        rw [hy, ← h3]
        exact List.mem_map_of_mem (List.mem_of_getElem? h2)
    · simp only [List.eraseIdx_zero, List.tail_cons, if_neg hk, idx]
      rw [if_neg (by rw [hy]; exact hk)]
      exact idx_map k' r i (i + 1)
  | x :: r, i, m + 1, y, hn, h, hy => by
    simp only [List.map_cons, List.nodup_cons] at hn
    have hx : x.1 ≠ k := by
      intro e
      apply hn.1
      rw [e, ← hy]
      exact List.mem_map_of_mem (List.mem_of_getElem? (by simpa using h))
    have ih := idx_erase k k' r (i + 1) m y hn.2 (by simpa using h) hy
    simp only [List.eraseIdx_cons_succ, idx]
    by_cases hk : k' = x.1
    · simp [hk, hx]
    · simp only [if_neg hk]
      exact ih

/-- 'delete(m, k)'. -/
theorem MapAt.del {w : World} {b : Nat} {f : κ → Option Value} (h : MapAt w kv b f) (K : KeyLaw P kt kv) {t et : TypeId} (ht : P.underlying t = some (.map kt et)) (k : κ) (ty u : TypeId) :
    ∃ w', (Builtin.delete_ #[t, u] ty #[.map (some b), kv k]).run P w = .ok (.tuple #[]) w' ∧ MapAt w' kv b (fun k' => if k' = k then none else f k') ∧ Upd [b] w w' := by
  obtain ⟨es, c, h1, h2, h3⟩ := h.lies
  have h4 := findKey_run K k w es
  cases hq : idx k es 0 with
  | none =>
    rw [hq] at h4
    refine ⟨setBlock w b (.map ((es.map (ent kv)).toArray) c), ?_, ⟨es, c, heap_setBlock_same h1 _, h2, ?_⟩, Upd.block_map h1 _⟩
    · simp only [Builtin.delete_, Sem.run_bind, run_underlying ht, Result.andThen_ok, MapKept.run_getObj_map h1, K.check, h4, List.getElem?_toArray, List.getElem?_cons_zero, List.getElem?_cons_succ]
      rw [MapKept.run_setObj_map _ h1]
      simp [setBlock]
    · intro k'
      rw [h3 k']
      by_cases e : k' = k
      · subst e
        have := h3 k'
        rw [hq] at this
        simp at this ⊢
        exact this.symm
      · simp [e]
  | some r =>
    obtain ⟨j, v0⟩ := r
    rw [hq] at h4
    obtain ⟨m, h5, y, h6, h7⟩ := idx_some hq
    simp only [Nat.zero_add] at h5
    subst h5
    refine ⟨setBlock w b (.map (((es.eraseIdx j).map (ent kv)).toArray) c), ?_, ⟨es.eraseIdx j, c, heap_setBlock_same h1 _, ?_, ?_⟩, Upd.block_map h1 _⟩
    · have hj : j < es.length := (List.getElem?_eq_some_iff.mp h6).1
      simp only [Builtin.delete_, Sem.run_bind, run_underlying ht, Result.andThen_ok, MapKept.run_getObj_map h1, K.check, h4, List.getElem?_toArray, List.getElem?_cons_zero, List.getElem?_cons_succ]
      rw [MapKept.run_setObj_map _ h1]
      simp [setBlock, Go.ChangeMaps.map_eraseIdx, Array.eraseIdxIfInBounds, hj]
    · rw [Go.ChangeMaps.map_eraseIdx]
      exact h2.sublist (List.eraseIdx_sublist ..)
    · intro k'
      rw [idx_erase k k' es 0 j y h2 h6 h7, h3 k']

/-- 'clear(m)'. -/
theorem MapAt.wipe {w : World} {b : Nat} {f : κ → Option Value} (h : MapAt w kv b f) {t kt et : TypeId} (ht : P.underlying t = some (.map kt et)) (ty : TypeId) :
    ∃ w', (Builtin.clear_ #[t] ty #[.map (some b)]).run P w = .ok (.tuple #[]) w' ∧ MapAt w' kv b (fun _ => none) ∧ Upd [b] w w' := by
  obtain ⟨es, c, h1, h2, h3⟩ := h.lies
  refine ⟨setBlock w b (.map #[] c), ?_, ⟨[], c, heap_setBlock_same h1 _, by simp, fun k => by simp [idx]⟩, Upd.block_map h1 _⟩
  simp only [Builtin.clear_, Sem.run_bind, run_underlying ht, Result.andThen_ok, MapKept.run_getObj_map h1, List.getElem?_toArray, List.getElem?_cons_zero]
  rw [MapKept.run_setObj_map _ h1]
  simp [setBlock]
end

/-- Keys of an integer kind. -/
def ik (q : IntKind) (n : Nat) : Value := .int q n
theorem intKeys {P : Program} {kt : TypeId} {q : IntKind} (h : P.underlying kt = some (.int q)) : KeyLaw P kt (ik q) := by
  refine ⟨fun a b w => ?_, ⟨_, h, .inl fun a b => ?_⟩, fun em a w => ?_, fun a => ?_⟩
  · have := run_equalIn_int (P := P) w 9999 kt q q a b h
    show (Op.equalIn (9999 + 1) kt (.int q a) (.int q b)).run P w = _
    rw [this]
    congr 1
    rw [Bool.eq_iff_iff]; simp; omega
  · simp only [Instr.sameNow, ik, if_true]
    congr 1
    rw [Bool.eq_iff_iff]; simp; omega
  · have : ∀ d : Nat, (Instr.checkKey em (d + 1) kt (ik q a)).run P w = .ok () w := fun d => by
      simp [Instr.checkKey, run_underlying h, ik]
    exact this 9999
  · simp [Instr.sameBits, ik]

/-- A store into a map, by its run. -/
theorem wpList_put {P : Program} {w : World} {ops : Array Oper} {rest : List Oper} {o : Oper} {a : Act} {Q : Exit → Act → World → Prop}
    (hg : o.guard = none) (m x v : Operand) (t : TypeId) (hop : o.op = Op.mapUpdate t m x v) {κ : Type} [DecidableEq κ] {kv : κ → Value} {kt et : TypeId} (ht : P.underlying t = some (.map kt et)) (K : KeyLaw P kt kv)
    (b : Nat) (f : κ → Option Value) (hM : MapAt w kv b f) (k : κ) (V : Value) (hm : a.eval m = .map (some b)) (hx : a.eval x = kv k) (hv : a.eval v = V)
    (h : ∀ w', MapAt w' kv b (fun k' => if k' = k then some V else f k') → Upd [b] w w' → wpList P ops Q rest (a.put o.dst undef) w') : wpList P ops Q (o :: rest) a w := by
  refine wpList_plain hg fun K' hK' => ?_
  obtain ⟨w', h1, h2, h3⟩ := hM.put K ht k V
  unfold Oper.wp
  simp [execOp, hop, hm, hx, hv, h1, Result.andThen]
  exact hK' _ _ (h w' h2 h3)
theorem wpList_look {P : Program} {w : World} {ops : Array Oper} {rest : List Oper} {o : Oper} {a : Act} {Q : Exit → Act → World → Prop}
    (hg : o.guard = none) (m x : Operand) (t : TypeId) (ok : Bool) (hop : o.op = Op.lookup t m x ok) {κ : Type} [DecidableEq κ] {kv : κ → Value} {kt et : TypeId} (ht : P.underlying t = some (.map kt et)) (K : KeyLaw P kt kv)
    (b : Nat) (f : κ → Option Value) (hM : MapAt w kv b f) (k : κ) {z : Value} (hz : ∀ w, (zeroValue et).run P w = .ok z w) (hm : a.eval m = .map (some b)) (hx : a.eval x = kv k)
    (h : wpList P ops Q rest (a.put o.dst (if ok then .tuple #[(f k).getD z, .bool (f k).isSome] else (f k).getD z)) w) : wpList P ops Q (o :: rest) a w := by
  refine wpList_plain hg fun K' hK' => ?_
  have h1 := hM.look K ht hz k ok
  unfold Oper.wp
  simp [execOp, hop, hm, hx, h1, Result.andThen]
  exact hK' _ _ h
theorem wpList_del {P : Program} {w : World} {ops : Array Oper} {rest : List Oper} {o : Oper} {a : Act} {Q : Exit → Act → World → Prop}
    (hg : o.guard = none) (m x : Operand) (t u : TypeId) (hop : o.op = .call { callee := .builtin .delete, args := #[m, x], argTypes := #[t, u] }) {κ : Type} [DecidableEq κ] {kv : κ → Value} {kt et : TypeId} (ht : P.underlying t = some (.map kt et)) (K : KeyLaw P kt kv)
    (b : Nat) (f : κ → Option Value) (hM : MapAt w kv b f) (k : κ) (hm : a.eval m = .map (some b)) (hx : a.eval x = kv k)
    (h : ∀ w', MapAt w' kv b (fun k' => if k' = k then none else f k') → Upd [b] w w' → wpList P ops Q rest (a.put o.dst (.tuple #[])) w') : wpList P ops Q (o :: rest) a w := by
  refine wpList_plain hg fun K' hK' => ?_
  obtain ⟨w', h1, h2, h3⟩ := hM.del K ht k o.type u
  unfold Oper.wp execOp
  simp only [hop, resolve, invoke, builtin, Sem.run_bind, Sem.run_pure, Result.andThen_ok, List.map_toArray, List.map_cons, List.map_nil, hm, hx, h1]
  exact hK' _ _ (h w' h2 h3)
theorem wpList_wipe {P : Program} {w : World} {ops : Array Oper} {rest : List Oper} {o : Oper} {a : Act} {Q : Exit → Act → World → Prop}
    (hg : o.guard = none) (m : Operand) (t : TypeId) (hop : o.op = .call { callee := .builtin .clear, args := #[m], argTypes := #[t] }) {κ : Type} [DecidableEq κ] {kv : κ → Value} {kt et : TypeId} (ht : P.underlying t = some (.map kt et))
    (b : Nat) (f : κ → Option Value) (hM : MapAt w kv b f) (hm : a.eval m = .map (some b))
    (h : ∀ w', MapAt w' kv b (fun _ => none) → Upd [b] w w' → wpList P ops Q rest (a.put o.dst (.tuple #[])) w') : wpList P ops Q (o :: rest) a w := by
  refine wpList_plain hg fun K' hK' => ?_
  obtain ⟨w', h1, h2, h3⟩ := hM.wipe ht o.type
  unfold Oper.wp execOp
  simp only [hop, resolve, invoke, builtin, Sem.run_bind, Sem.run_pure, Result.andThen_ok, List.map_toArray, List.map_cons, List.map_nil, hm, h1]
  exact hK' _ _ (h w' h2 h3)
end Go.Ord
