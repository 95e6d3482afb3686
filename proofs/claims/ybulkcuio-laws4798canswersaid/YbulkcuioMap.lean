/-
  A map keyed by pointers (map[*Header]struct{}), made by the call itself: its look-up and its store, at this program's types (map 24, key 29 = *55).
-/
import Derived.Test.YbulkcuioRows
import Derived.WalkKit
import Derived.ProofKit
import Derived.OpenShut
import Derived.LaidEqlPtr
import Derived.WalkSpells
import Derived.WalkLawsBesides
import Derived.Maps.OwnOps
namespace Go.Proofs.Ybulkcuio.lawS4798CAnswer
open Go.ChangeShapes Go.WideShapes Go.ChangeAt Go.RowKit
open Go.ChangeMaps (setBlock heap_setBlock_same heap_setBlock_other)

theorem Yba.info55 : (Yba.prog.info? 55).map (fun i => (i.size)) = some 2 := by kernel_rfl

/-- '==' of two pointers to headers that lie in two blocks of cells. -/
theorem eq_other (w : World) {a b : Addr} {ca cb : Array Value} {ta tb : TypeId} (hne : a ≠ b) (ha : w.heap[a.block]? = some (.cells ca ta (0, 0))) (hb : w.heap[b.block]? = some (.cells cb tb (0, 0))) :
    (Op.equal 29 (.pointer (some a)) (.pointer (some b))).run Yba.prog w = .ok false w := by
  have hi := Yba.info55
  cases hq : Yba.prog.info? 55 with
  | none => rw [hq] at hi; cases hi
  | some j =>
    rw [hq] at hi
    have hs : j.size = 2 := by simpa using hi
    have h : ∀ d : Nat, (Op.equalIn (d + 1) 29 (.pointer (some a)) (.pointer (some b))).run Yba.prog w = .ok false w := fun d => by
      simp [Op.equalIn, run_underlying Yba.underlying29, sizeOf, typeInfo, hq, hs, run_sameAddr_other w hne ha hb]
    exact h 9999
theorem eq_same (w : World) (a : Addr) : (Op.equal 29 (.pointer (some a)) (.pointer (some a))).run Yba.prog w = .ok true w := by
  have hi := Yba.info55
  cases hq : Yba.prog.info? 55 with
  | none => rw [hq] at hi; cases hi
  | some j =>
    have h : ∀ d : Nat, (Op.equalIn (d + 1) 29 (.pointer (some a)) (.pointer (some a))).run Yba.prog w = .ok true w := fun d => by
      simp [Op.equalIn, run_underlying Yba.underlying29, sizeOf, typeInfo, hq, run_sameAddr_same]
    exact h 9999

/-- The keys of a list of entries: pointers to blocks of cells below N. -/
def Keys (w : World) (es : List MapEntry) (N : Nat) : Prop :=
  ∀ e ∈ es, ∃ b c t, e.key = .pointer (some ⟨b, 0, none⟩) ∧ b < N ∧ w.heap[b]? = some (.cells c t (0, 0))

theorem asking_none (w : World) {b N : Nat} {c : Array Value} {t : TypeId} (hN : N ≤ b) (hb : w.heap[b]? = some (.cells c t (0, 0))) :
    ∀ (es : List MapEntry) (i : Nat), Keys w es N → (Instr.findAsking 29 (.pointer (some ⟨b, 0, none⟩)) es i).run Yba.prog w = .ok none w
  | [], i, _ => by simp [Instr.findAsking]
  | e :: es, i, hk => by
    obtain ⟨b', c', t', hkey, hlt, hb'⟩ := hk e (by simp)
    have h1 := eq_other w (a := ⟨b, 0, none⟩) (b := ⟨b', 0, none⟩) (by intro h; cases h; omega) hb hb'
    have h2 := asking_none w hN hb es (i + 1) (fun x hx => hk x (by simp [hx]))
    simp [Instr.findAsking, hkey, h1, h2]

theorem asking_last (w : World) {b N : Nat} {c : Array Value} {t : TypeId} (hN : N ≤ b) (hb : w.heap[b]? = some (.cells c t (0, 0))) (v : Value) (n : Nat) :
    ∀ (es : List MapEntry) (i : Nat), Keys w es N → ∃ k, (Instr.findAsking 29 (.pointer (some ⟨b, 0, none⟩)) (es ++ [{ key := .pointer (some ⟨b, 0, none⟩), val := v, born := n }]) i).run Yba.prog w = .ok (some (k, v)) w
  | [], i, _ => ⟨i, by simp [Instr.findAsking, eq_same]⟩
  | e :: es, i, hk => by
    obtain ⟨b', c', t', hkey, hlt, hb'⟩ := hk e (by simp)
    have h1 := eq_other w (a := ⟨b, 0, none⟩) (b := ⟨b', 0, none⟩) (by intro h; cases h; omega) hb hb'
    obtain ⟨k, h2⟩ := asking_last w hN hb v n es (i + 1) (fun x hx => hk x (by simp [hx]))
    exact ⟨k, by simp [Instr.findAsking, hkey, h1, h2]⟩

theorem now_none (b : Nat) (e : MapEntry) (es : List MapEntry) : Instr.findNow (.pointer 55) (.pointer (some ⟨b, 0, none⟩)) (e :: es) 0 = none := by
  simp [Instr.findNow, Instr.sameNow]

theorem key_none (w : World) {b N : Nat} {c : Array Value} {t : TypeId} (hN : N ≤ b) (hb : w.heap[b]? = some (.cells c t (0, 0))) (es : List MapEntry) (hk : Keys w es N) :
    (Instr.findKey 29 (.pointer (some ⟨b, 0, none⟩)) es).run Yba.prog w = .ok none w := by
  have h := asking_none w hN hb es 0 hk
  cases es with
  | nil => simp [Instr.findKey, run_underlying Yba.underlying29, Instr.findNow]
  | cons e es => simp [Instr.findKey, run_underlying Yba.underlying29, now_none, h]

theorem key_last (w : World) {b N : Nat} {c : Array Value} {t : TypeId} (hN : N ≤ b) (hb : w.heap[b]? = some (.cells c t (0, 0))) (es : List MapEntry) (hk : Keys w es N) (v : Value) (n : Nat) :
    ∃ k, (Instr.findKey 29 (.pointer (some ⟨b, 0, none⟩)) (es ++ [{ key := .pointer (some ⟨b, 0, none⟩), val := v, born := n }])).run Yba.prog w = .ok (some (k, v)) w := by
  obtain ⟨k, h⟩ := asking_last w hN hb v n es 0 hk
  refine ⟨k, ?_⟩
  cases es with
  | nil =>
    simp only [List.nil_append] at h ⊢
    simp [Instr.findKey, run_underlying Yba.underlying29, now_none, h]
  | cons e es =>
    simp only [List.cons_append] at h ⊢
    simp [Instr.findKey, run_underlying Yba.underlying29, now_none, h]

theorem check_ptr (w : World) (em : Bool) (p : Option Addr) : (Instr.checkKey em 10000 29 (.pointer p)).run Yba.prog w = .ok () w := by
  have h : ∀ d : Nat, (Instr.checkKey em (d + 1) 29 (.pointer p)).run Yba.prog w = .ok () w := fun d => by
    simp [Instr.checkKey, run_underlying Yba.underlying29]
  exact h 9999


/-- The look-up of a header that is no key. -/
theorem look_none (w : World) {m b N : Nat} {c : Array Value} {t : TypeId} {es : Array MapEntry} {clock : Nat} (hm : w.heap[m]? = some (.map es clock)) (hN : N ≤ b) (hb : w.heap[b]? = some (.cells c t (0, 0))) (hk : Keys w es.toList N) :
    (Instr.lookup 24 (.map (some m)) (.pointer (some ⟨b, 0, none⟩)) true).run Yba.prog w = .ok (.tuple #[.agg #[], .bool false]) w := by
  simp [Instr.lookup, run_underlying Yba.underlying24, MapKept.run_getObj_map hm, check_ptr, key_none w hN hb es.toList hk]

/-- The look-up of the header that was stored last. -/
theorem look_last (w : World) {m b N n : Nat} {c : Array Value} {t : TypeId} {es : Array MapEntry} {clock : Nat} (hm : w.heap[m]? = some (.map (es.push { key := .pointer (some ⟨b, 0, none⟩), val := .agg #[], born := n }) clock)) (hN : N ≤ b) (hb : w.heap[b]? = some (.cells c t (0, 0))) (hk : Keys w es.toList N) :
    (Instr.lookup 24 (.map (some m)) (.pointer (some ⟨b, 0, none⟩)) true).run Yba.prog w = .ok (.tuple #[.agg #[], .bool true]) w := by
  obtain ⟨k, h⟩ := key_last w hN hb es.toList hk (.agg #[]) n
  simp [Instr.lookup, run_underlying Yba.underlying24, MapKept.run_getObj_map hm, check_ptr, h]

/-- The store of a header that is no key. -/
theorem store_new (w : World) {m b N : Nat} {c : Array Value} {t : TypeId} {es : Array MapEntry} {clock : Nat} (hm : w.heap[m]? = some (.map es clock)) (hN : N ≤ b) (hb : w.heap[b]? = some (.cells c t (0, 0))) (hk : Keys w es.toList N) :
    (Instr.mapUpdate 24 (.map (some m)) (.pointer (some ⟨b, 0, none⟩)) (.agg #[])).run Yba.prog w = .ok () (setBlock w m (.map (es.push { key := .pointer (some ⟨b, 0, none⟩), val := .agg #[], born := clock }) (clock + 1))) := by
  simp [Instr.mapUpdate, run_underlying Yba.underlying24, MapKept.run_getObj_map hm, check_ptr, key_none w hN hb es.toList hk, MapKept.run_setObj_map _ hm, setBlock]


/-- A store into a map, by its run. -/
theorem wpList_mapUpdate_run {P : Program} {w : World} {ops : Array Oper} {rest : List Oper} {o : Oper} {a : Act} {Q : Exit → Act → World → Prop}
    (hg : o.guard = none) (m x v : Operand) (t : TypeId) (hop : o.op = Op.mapUpdate t m x v) (M K V : Value) (hm : a.eval m = M) (hx : a.eval x = K) (hv : a.eval v = V)
    (w2 : World) (hrun : (Instr.mapUpdate t M K V).run P w = .ok () w2) (h : wpList P ops Q rest (a.put o.dst undef) w2) : wpList P ops Q (o :: rest) a w := by
  refine wpList_plain hg fun K' hK' => ?_
  unfold Oper.wp
  simp [execOp, hop, hm, hx, hv, hrun, Result.andThen]
  exact hK' _ _ h

/-- What the memory of the call looks like while the set is filled: the collector's block B, the map's block B + 1 with entries es, the keys. -/
structure Inv (B : Nat) (w wr : World) (es : Array MapEntry) (clock : Nat) : Prop where
  map : wr.heap[B + 1]? = some (.map es clock)
  keys : Keys wr es.toList wr.heap.size
  below : Below B w wr
  big : B + 2 ≤ wr.heap.size

theorem Keys.mono {w w' : World} {es : List MapEntry} {N N' : Nat} (h : Keys w es N) (hN : N ≤ N') (hs : ∀ (k : Nat) (c : Array Value) (t : TypeId), w.heap[k]? = some (.cells c t (0, 0)) → ∃ c', w'.heap[k]? = some (.cells c' t (0, 0))) : Keys w' es N' := by
  intro e he
  obtain ⟨b, c, t, h1, h2, h3⟩ := h e he
  obtain ⟨c', h4⟩ := hs b c t h3
  exact ⟨b, c', t, h1, by omega, h4⟩

theorem lt_of_heap {w : World} {k : Nat} {o : Obj} (h : w.heap[k]? = some o) : k < w.heap.size := by
  rcases Nat.lt_or_ge k w.heap.size with h' | h'
  · exact h'
  · rw [Array.getElem?_eq_none h'] at h; cases h

theorem heap_alloc_lt {w : World} {k : Nat} {o x : Obj} (h : w.heap[k]? = some o) : (w.alloc x).heap[k]? = some o := by
  rw [Below.heap_alloc _ _ _ (lt_of_heap h)]; exact h

theorem heap_alloc_at (w : World) (x : Obj) : (w.alloc x).heap[w.heap.size]? = some x := by
  show (w.heap.push x)[w.heap.size]? = _
  simp

/-- One more header in the set. -/
theorem Inv.put {B : Nat} {w wr : World} {es : Array MapEntry} {clock : Nat} (h : Inv B w wr es clock) (hB : B = w.heap.size) (c : Array Value) (t : TypeId) :
    ∃ w2, (Instr.mapUpdate 24 (.map (some (B + 1))) (.pointer (some ⟨wr.heap.size, 0, none⟩)) (.agg #[])).run Yba.prog (wr.alloc (.cells c t)) = .ok () w2 ∧
      Inv B w w2 (es.push { key := .pointer (some ⟨wr.heap.size, 0, none⟩), val := .agg #[], born := clock }) (clock + 1) ∧ (∀ k, k ≠ B + 1 → w2.heap[k]? = (wr.alloc (.cells c t)).heap[k]?) := by
  have hm := heap_alloc_lt (x := .cells c t) h.map
  have hk : Keys (wr.alloc (.cells c t)) es.toList wr.heap.size := Keys.mono h.keys (Nat.le_refl _) (fun k c t h => ⟨c, heap_alloc_lt h⟩)
  have hn := heap_alloc_at wr (.cells c t)
  refine ⟨_, store_new _ hm (Nat.le_refl _) hn hk, ⟨heap_setBlock_same hm _, ?_, ?_, ?_⟩, ?_⟩
  · have hs : (setBlock (wr.alloc (.cells c t)) (B + 1) (.map (es.push { key := .pointer (some ⟨wr.heap.size, 0, none⟩), val := .agg #[], born := clock }) (clock + 1))).heap.size = wr.heap.size + 1 := by simp [setBlock]
    have hst : ∀ (k : Nat) (c' : Array Value) (t' : TypeId), (wr.alloc (.cells c t)).heap[k]? = some (.cells c' t' (0, 0)) → ∃ c'', (setBlock (wr.alloc (.cells c t)) (B + 1) (.map (es.push { key := .pointer (some ⟨wr.heap.size, 0, none⟩), val := .agg #[], born := clock }) (clock + 1))).heap[k]? = some (.cells c'' t' (0, 0)) := by
      intro k c' t' hk'
      refine ⟨c', ?_⟩
      rw [heap_setBlock_other hm _ (by intro e; rw [e, hm] at hk'; cases hk')]
      exact hk'
    have h1 := Keys.mono (N' := wr.heap.size + 1) hk (by omega) hst
    rw [hs]
    intro e he
    simp only [Array.toList_push, List.mem_append, List.mem_singleton] at he
    rcases he with he | rfl
    · exact h1 e he
    · obtain ⟨c'', h2⟩ := hst _ _ _ hn
      exact ⟨wr.heap.size, c'', t, rfl, by omega, h2⟩
  · have hb : Below B w (wr.alloc (.cells c t)) := h.below.alloc (by have := h.big; omega) _
    exact hb.trans ⟨rfl, rfl, rfl, by simp [setBlock], fun k hk => heap_setBlock_other hm _ (by omega)⟩
  · have := h.big
    simp [setBlock]; omega
  · intro k hk
    exact heap_setBlock_other hm _ hk

end Go.Proofs.Ybulkcuio.lawS4798CAnswer
