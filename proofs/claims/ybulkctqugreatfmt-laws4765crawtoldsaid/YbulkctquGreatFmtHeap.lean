/-
  What is of no program: slices that the call itself owns, told by their blocks; the world but for some blocks; append, told so.
-/
import Derived.WalkKit
import Derived.ProofKit
import Derived.OpenShut
import Derived.Handy
import Derived.WalkSpells
import Derived.WalkLawsBesides
import Derived.Deep.RegionLaw
import Derived.Deep.RegionLawGrows
import Derived.Laws.MakeOwn
namespace Go.Ord
open Go.RowKit

/-- The world w' is w but for the blocks S, and new ones. -/
structure Upd (S : List Nat) (w w' : World) : Prop where
  os : w'.os = w.os
  tape : w'.tape = w.tape
  output : w'.output = w.output
  size : w.heap.size ≤ w'.heap.size
  block : ∀ k, k < w.heap.size → k ∉ S → w'.heap[k]? = w.heap[k]?

theorem Upd.refl (S : List Nat) (w : World) : Upd S w w := ⟨rfl, rfl, rfl, Nat.le_refl _, fun _ _ _ => rfl⟩
theorem Upd.mono {S T : List Nat} {w w' : World} (h : Upd S w w') (hs : ∀ k ∈ S, k ∈ T ∨ w.heap.size ≤ k) : Upd T w w' :=
  ⟨h.os, h.tape, h.output, h.size, fun k hk hn => h.block k hk (fun hm => by rcases hs k hm with h' | h'; exact hn h'; omega)⟩
theorem Upd.trans {S T : List Nat} {w w1 w2 : World} (h : Upd S w w1) (k : Upd T w1 w2) (hT : ∀ x ∈ T, x ∈ S ∨ w.heap.size ≤ x) : Upd S w w2 :=
  ⟨k.os.trans h.os, k.tape.trans h.tape, k.output.trans h.output, Nat.le_trans h.size k.size, fun x hx hn =>
    (k.block x (Nat.lt_of_lt_of_le hx h.size) (fun hm => by rcases hT x hm with h' | h'; exact hn h'; omega)).trans (h.block x hx hn)⟩
theorem Upd.alloc (S : List Nat) (w : World) (o : Obj) : Upd S w (w.alloc o) := ⟨rfl, rfl, rfl, by simp, fun k hk _ => Below.heap_alloc _ _ _ hk⟩
theorem Upd.drew (S : List Nat) (w : World) : Upd S w w.drew := ⟨rfl, rfl, rfl, Nat.le_refl _, fun _ _ _ => rfl⟩
theorem Upd.drewN (S : List Nat) (w : World) (n : Nat) : Upd S w (w.drewN n) := ⟨rfl, rfl, rfl, Nat.le_refl _, fun _ _ _ => rfl⟩
theorem Upd.store (w : World) (b j : Nat) (v : Value) : Upd [b] w (w.setCell ⟨b, j, none⟩ v) :=
  ⟨rfl, rfl, rfl, by simp [World.setCell], fun k _ hn => Below.heap_setCell _ _ _ _ (by simpa using hn)⟩
theorem Upd.of_grown {w w' : World} {g : Nat} (h : w.grownBy w' (some g)) : Upd [g] w w' := ⟨h.os, h.tape, h.output, h.size, fun k hk hn => h.block k hk (by simpa using hn)⟩
theorem Upd.of_grown0 {w w' : World} (h : w.grownBy w' none) : Upd [] w w' := ⟨h.os, h.tape, h.output, h.size, fun k hk _ => h.block k hk (by simp)⟩
theorem Upd.below {S : List Nat} {w w' : World} (h : Upd S w w') {B : Nat} (hB : B ≤ w.heap.size) (hS : ∀ k ∈ S, B ≤ k) : Below B w w' :=
  ⟨h.os, h.tape, h.output, h.size, fun k hk => h.block k (by omega) (fun hm => by have := hS k hm; omega)⟩

theorem lt_of {w : World} {k : Nat} {o : Obj} (h : w.heap[k]? = some o) : k < w.heap.size := by
  rcases Nat.lt_or_ge k w.heap.size with h' | h'
  · exact h'
  · rw [Array.getElem?_eq_none h'] at h; cases h

/-- A block of cells, none of them frozen. -/
def Blk (w : World) (b : Nat) (t : TypeId) (cs : Array Value) : Prop := w.heap[b]? = some (.cells cs t (0, 0))
theorem Blk.lt {w : World} {b : Nat} {t : TypeId} {cs : Array Value} (h : Blk w b t cs) : b < w.heap.size := lt_of h
theorem Blk.cell {w : World} {b : Nat} {t : TypeId} {cs : Array Value} (h : Blk w b t cs) (j : Nat) : w.cell? ⟨b, j, none⟩ = cs[j]? := by
  unfold Blk at h; simp [World.cell?, h]
theorem Blk.free {w : World} {b : Nat} {t : TypeId} {cs : Array Value} (h : Blk w b t cs) (j : Nat) : w.frozen? ⟨b, j, none⟩ = false := by
  unfold Blk at h; simp [World.frozen?, h]
theorem Blk.store {w : World} {b : Nat} {t : TypeId} {cs : Array Value} (h : Blk w b t cs) (j : Nat) (v : Value) : Blk (w.setCell ⟨b, j, none⟩ v) b t (cs.setIfInBounds j v) := by
  unfold Blk at h ⊢; simp [World.setCell, Array.getElem?_modify, h]
theorem Blk.keep {w w' : World} {b : Nat} {t : TypeId} {cs : Array Value} {S : List Nat} (h : Blk w b t cs) (hu : Upd S w w') (hn : b ∉ S) : Blk w' b t cs :=
  (hu.block b h.lt hn).trans h
theorem Blk.new (w : World) (cs : Array Value) (t : TypeId) : Blk (w.alloc (.cells cs t)) w.heap.size t cs := by
  show (w.heap.push _)[w.heap.size]? = _
  simp

theorem Upd.cell {S : List Nat} {w w' : World} (hu : Upd S w w') {b j : Nat} {v : Value} (h : w.cell? ⟨b, j, none⟩ = some v) (hn : b ∉ S) : w'.cell? ⟨b, j, none⟩ = some v :=
  (World.cell?_of_block (hu.block b (World.block_lt_of_cell? _ _ h) hn)).trans h
theorem Upd.free {S : List Nat} {w w' : World} (hu : Upd S w w') {b j : Nat} (hb : b < w.heap.size) (h : w.frozen? ⟨b, j, none⟩ = false) (hn : b ∉ S) : w'.frozen? ⟨b, j, none⟩ = false :=
  (World.frozen?_of_block (hu.block b hb hn)).trans h

theorem set_same {w : World} {b j : Nat} {u v : Value} (h : w.cell? ⟨b, j, none⟩ = some u) : (w.setCell ⟨b, j, none⟩ v).cell? ⟨b, j, none⟩ = some v := World.cell?_setCell_same _ _ _ h
theorem set_other {w : World} {b j c k : Nat} {u v : Value} (h : w.cell? ⟨c, k, none⟩ = some u) (hn : b ≠ c ∨ j ≠ k) : (w.setCell ⟨b, j, none⟩ v).cell? ⟨c, k, none⟩ = some u := by
  rw [World.cell?_setCell_other]
  · exact h
  · intro e; injection e; omega
theorem set_free {w : World} {a p : Addr} {v : Value} (h : w.frozen? p = false) : (w.setCell a v).frozen? p = false := by
  rw [World.frozen?_setCell]; exact h

/-- A slice '.slice a n cap' of n elements of sz cells each, type e, that owns its row: nil, or at the head of the block named in fp; xs: its cells. -/
structure Sl (w : World) (e : TypeId) (sz : Nat) (a : Option Addr) (n cap : Nat) (fp : List Nat) (xs : List Value) : Prop where
  len : xs.length = n * sz
  lies : (a = none ∧ n = 0 ∧ cap = 0 ∧ fp = []) ∨
   ∃ g cur, a = some ⟨g, 0, none⟩ ∧ fp = [g] ∧ Blk w g e cur ∧ n ≤ cap ∧ cap ≤ maxLen ∧ cur.size = cap * sz ∧ cur.toList.take (n * sz) = xs

section
variable {w w' : World} {e : TypeId} {sz : Nat} {a : Option Addr} {n cap : Nat} {fp S : List Nat} {xs : List Value}
theorem Sl.empty (w : World) (e : TypeId) (sz : Nat) : Sl w e sz none 0 0 [] [] := ⟨by simp, .inl ⟨rfl, rfl, rfl, rfl⟩⟩
theorem Sl.lt (h : Sl w e sz a n cap fp xs) : ∀ k ∈ fp, k < w.heap.size := by
  intro k hk
  rcases h.2 with ⟨_, _, _, rfl⟩ | ⟨g, cur, _, rfl, hb, _⟩
  · simp at hk
  · simp at hk; subst hk; exact hb.lt
theorem Sl.keep (h : Sl w e sz a n cap fp xs) (hu : Upd S w w') (hn : ∀ k ∈ fp, k ∉ S) : Sl w' e sz a n cap fp xs := by
  refine ⟨h.1, ?_⟩
  rcases h.2 with h0 | ⟨g, cur, hv, hf, hb, r⟩
  · exact .inl h0
  · exact .inr ⟨g, cur, hv, hf, hb.keep hu (hn g (by rw [hf]; simp)), r⟩
theorem Sl.le (h : Sl w e sz a n cap fp xs) : n ≤ cap ∧ cap ≤ maxLen := by
  rcases h.2 with ⟨_, rfl, rfl, _⟩ | ⟨g, cur, _, _, _, r1, r2, _⟩
  · exact ⟨Nat.le_refl _, Nat.zero_le _⟩
  · exact ⟨r1, r2⟩
/-- Where there is an element there is a block. -/
theorem Sl.has (h : Sl w e sz a n cap fp xs) (hn : 0 < n) :
    ∃ g, a = some ⟨g, 0, none⟩ ∧ fp = [g] ∧ g < w.heap.size ∧ (∀ j, j < n * sz → w.cell? ⟨g, j, none⟩ = xs[j]?) ∧ (∀ j, w.frozen? ⟨g, j, none⟩ = false) := by
  rcases h.2 with ⟨_, h1, _⟩ | ⟨g, cur, hv, hf, hb, r1, r2, r3, r4⟩
  · omega
  · refine ⟨g, hv, hf, hb.lt, fun j hj => ?_, hb.free⟩
    rw [hb.cell, ← r4, List.getElem?_take, if_pos hj]
    simp
/-- A store. -/
theorem Sl.store {g : Nat} (h : Sl w e sz (some ⟨g, 0, none⟩) n cap fp xs) (j : Nat) (u : Value) :
    Sl (w.setCell ⟨g, j, none⟩ u) e sz (some ⟨g, 0, none⟩) n cap fp (xs.set j u) := by
  refine ⟨by simp [h.1], ?_⟩
  rcases h.2 with ⟨h0, _, _⟩ | ⟨g', cur, hv, hf, hb, r1, r2, r3, r4⟩
  · cases h0
  · injection hv with hv
    injection hv with hv
    subst hv
    refine .inr ⟨g, _, rfl, hf, hb.store j u, r1, r2, by simpa using r3, ?_⟩
    rw [Array.toList_setIfInBounds, List.take_set, r4]
end

theorem Sl.get {w : World} {e : TypeId} {a : Option Addr} {n cap : Nat} {fp : List Nat} {xs : List Value} (h : Sl w e 1 a n cap fp xs) {j : Nat} {v : Value} (hj : xs[j]? = some v) :
    ∃ g, a = some ⟨g, 0, none⟩ ∧ fp = [g] ∧ w.cell? ⟨g, j, none⟩ = some v := by
  have hl := (List.getElem?_eq_some_iff.mp hj).1
  have h1 := h.len
  obtain ⟨g, h2, h3, _, h4, _⟩ := h.has (by omega)
  exact ⟨g, h2, h3, (h4 j (by omega)).trans hj⟩

/-- 'append(v, news...)', v owned: where it lies now, and what has turned. -/
theorem run_append {P : Program} (w : World) (t ty e : TypeId) (i : TypeInfo) (z : Value) (sz bytes : Nat) (ht : P.underlying t = some (.slice e)) (hi : P.info? e = some i) (hz : i.zero = some z)
    (hsize : i.size = sz) (hby : i.bytes = bytes) (hzs : z.cells.size = sz) (hsz : 0 < sz)
    (ao : Option Addr) (n cap : Nat) (fp : List Nat) (xs : List Value) (hs : Sl w e sz ao n cap fp xs)
    (a : Addr) (m c : Nat) (news : List Value) (hl : news.length = m * sz) (hnews : ∀ j u, news[j]? = some u → w.cell? (a.add j) = some u) (h1 : ∀ u ∈ news, u.oneCell' = true)
    (h0 : 0 < m) (h63 : n + m ≤ maxLen) (hbytes : (n + m) * bytes ≤ 140737488355328) :
    ∃ g' cap' w', (Builtin.append_ #[t, t] ty #[.slice ao n cap, .slice (some a) m c]).run P w = .ok (.slice (some ⟨g', 0, none⟩) (n + m) cap') w' ∧ Sl w' e sz (some ⟨g', 0, none⟩) (n + m) cap' [g'] (xs ++ news) ∧ Upd fp w w' ∧ (g' ∈ fp ∨ w.heap.size ≤ g') := by
  have grown : ∀ (w' : World) (v' : Value), w'.ownsRow w.heap.size e sz v' (n + m) (xs ++ news) → w.grownBy w' none → ∃ g' cap', v' = .slice (some ⟨g', 0, none⟩) (n + m) cap' ∧ Sl w' e sz (some ⟨g', 0, none⟩) (n + m) cap' [g'] (xs ++ news) ∧ Upd fp w w' ∧ (g' ∈ fp ∨ w.heap.size ≤ g') := by
    intro w' v' ho hg
    have hu : Upd fp w w' := (Upd.of_grown0 hg).mono (by simp)
    rcases ho.2 with ⟨_, hz⟩ | ⟨g, cap, cur, hv, hbg, hb, r⟩
    · omega
    · exact ⟨g, cap, hv, ⟨ho.1, .inr ⟨g, cur, rfl, rfl, hb, r⟩⟩, hu, .inr hbg⟩
  rcases hs.2 with ⟨rfl, rfl, rfl, rfl⟩ | ⟨g, cur, rfl, rfl, hb, r1, r2, r3, r4⟩
  · have hx : xs = [] := List.eq_nil_of_length_eq_zero (by simpa using hs.1)
    subst hx
    obtain ⟨v', w', hrun, ho, hg, _⟩ := run_append_own (P := P) w w.heap.size t ty e i z sz bytes ht hi hz hsize hby hzs hsz (.slice none 0 0) 0 [] (World.ownsRow_nil w _ e sz) a m c news hl hnews h1 h63 hbytes (Nat.le_refl _)
    obtain ⟨g', cap', rfl, q1, q2, q3⟩ := grown w' v' ho hg
    exact ⟨g', cap', w', hrun, q1, q2, q3⟩
  · by_cases hroom : n + m ≤ cap
    · subst hsize
      have hfit : n * i.size + news.length ≤ cur.size := by rw [hl, r3, ← Nat.add_mul]; exact Nat.mul_le_mul_right _ hroom
      have hr := run_append_room (P := P) w t ty e i ht hi g n cap cur hb a m c news hl hnews h1 hroom hfit
      refine ⟨g, cap, _, hr, ⟨by rw [List.length_append, hs.1, hl, Nat.add_mul], .inr ⟨g, _, rfl, rfl, setRow_heap w g cur _ e _ hb, hroom, r2, ?_, ?_⟩⟩, ⟨rfl, rfl, rfl, by simp, fun k _ hk => setRow_other w g k _ (by simpa using hk)⟩, by simp⟩
      · simp only [List.size_toArray, List.length_append, List.length_take, List.length_drop, Array.length_toList]
        omega
      · have hlen : (xs ++ news).length = (n + m) * i.size := by rw [List.length_append, hs.1, hl, Nat.add_mul]
        rw [r4, ← hlen]
        exact List.take_left
    · obtain ⟨v', w', hrun, ho, hg⟩ := run_append_arg_grows (P := P) w t ty e i z sz bytes ht hi hz hsize hby hzs hsz ⟨g, 0, none⟩ n cap xs hs.1
        (by
          intro j u hu
          have hj : j < n * sz := by have := (List.getElem?_eq_some_iff.mp hu).1; rw [hs.1] at this; exact this
          rw [Go.WideShapes.add_plain, Nat.zero_add, hb.cell, ← hu, ← r4, List.getElem?_take, if_pos hj]
          simp) a m c news hl hnews (by omega) h63 hbytes
      obtain ⟨g', cap', rfl, q1, q2, q3⟩ := grown w' v' ho hg
      exact ⟨g', cap', w', hrun, q1, q2, q3⟩

theorem wpList_append_sl {P : Program} (w : World) {ops : Array Oper} {rest : List Oper} {o : Oper} {a : Act} {Q : Exit → Act → World → Prop} (hgd : o.guard = none) (s x : Operand) (t : TypeId)
    (ho : o.op = .call { callee := .builtin .append, args := #[s, x], argTypes := #[t, t] })
    (e : TypeId) (i : TypeInfo) (z : Value) (sz bytes : Nat) (ht : P.underlying t = some (.slice e)) (hi : P.info? e = some i) (hz : i.zero = some z)
    (hsize : i.size = sz) (hby : i.bytes = bytes) (hzs : z.cells.size = sz) (hsz : 0 < sz)
    (ao : Option Addr) (n cap : Nat) (fp : List Nat) (xs : List Value) (hs : a.eval s = .slice ao n cap) (hown : Sl w e sz ao n cap fp xs)
    (ad : Addr) (m c : Nat) (news : List Value) (hx : a.eval x = .slice (some ad) m c) (hl : news.length = m * sz) (hnews : ∀ j u, news[j]? = some u → w.cell? (ad.add j) = some u) (h1 : ∀ u ∈ news, u.oneCell' = true)
    (h0 : 0 < m) (h63 : n + m ≤ maxLen) (hbytes : (n + m) * bytes ≤ 140737488355328)
    (h : ∀ g' cap' w', Sl w' e sz (some ⟨g', 0, none⟩) (n + m) cap' [g'] (xs ++ news) → Upd fp w w' → (g' ∈ fp ∨ w.heap.size ≤ g') → wpList P ops Q rest (a.put o.dst (.slice (some ⟨g', 0, none⟩) (n + m) cap')) w') : wpList P ops Q (o :: rest) a w := by
  refine wpList_plain hgd fun K hK => ?_
  obtain ⟨g', cap', w', hr, h2, h3, h4⟩ := run_append (P := P) w t o.type e i z sz bytes ht hi hz hsize hby hzs hsz ao n cap fp xs hown ad m c news hl hnews h1 h0 h63 hbytes
  unfold Oper.wp execOp
  simp only [ho, resolve, invoke, builtin, Sem.run_bind, Sem.run_pure, Result.andThen_ok, List.map_toArray, List.map_cons, List.map_nil, hs, hx, hr]
  exact hK _ _ (h g' cap' w' h2 h3 h4)

theorem step_append_sl {P : Program} {ops : Array Oper} {o : Oper} {a : Act} {w : World} {K : Act → World → Prop} {Q : Exit → Act → World → Prop} {E : Prop}
    (hgd : o.guard = none) (s x : Operand) (t : TypeId) (ho : o.op = .call { callee := .builtin .append, args := #[s, x], argTypes := #[t, t] })
    (e : TypeId) (i : TypeInfo) (z : Value) (sz bytes : Nat) (ht : P.underlying t = some (.slice e)) (hi : P.info? e = some i) (hz : i.zero = some z)
    (hsize : i.size = sz) (hby : i.bytes = bytes) (hzs : z.cells.size = sz) (hsz : 0 < sz)
    (ao : Option Addr) (n cap : Nat) (fp : List Nat) (xs : List Value) (hs : a.eval s = .slice ao n cap) (hown : Sl w e sz ao n cap fp xs)
    (ad : Addr) (m c : Nat) (news : List Value) (hx : a.eval x = .slice (some ad) m c) (hl : news.length = m * sz) (hnews : ∀ j u, news[j]? = some u → w.cell? (ad.add j) = some u) (h1 : ∀ u ∈ news, u.oneCell' = true)
    (h0 : 0 < m) (h63 : n + m ≤ maxLen) (hbytes : (n + m) * bytes ≤ 140737488355328)
    (h : ∀ g' cap' w', Sl w' e sz (some ⟨g', 0, none⟩) (n + m) cap' [g'] (xs ++ news) → Upd fp w w' → (g' ∈ fp ∨ w.heap.size ≤ g') → K (a.put o.dst (.slice (some ⟨g', 0, none⟩) (n + m) cap')) w') :
    if Region.wanted o (yielded ops a.tmps) = true then Oper.wp P o a w K Q else E := by
  have hw : Region.wanted o (yielded ops a.tmps) = true := by simp [Region.wanted, hgd]
  rw [if_pos hw]
  obtain ⟨g', cap', w', hr, h2, h3, h4⟩ := run_append (P := P) w t o.type e i z sz bytes ht hi hz hsize hby hzs hsz ao n cap fp xs hown ad m c news hl hnews h1 h0 h63 hbytes
  unfold Oper.wp execOp
  simp only [ho, resolve, invoke, builtin, Sem.run_bind, Sem.run_pure, Result.andThen_ok, List.map_toArray, List.map_cons, List.map_nil, hs, hx, hr]
  exact h g' cap' w' h2 h3 h4

/-- The one cell of a new block, as 'append(xs, x)' lays it. -/
theorem one_new (w : World) (u : Value) (e : TypeId) : ∀ j v, [u][j]? = some v → (w.alloc (.cells #[u] e)).cell? ((⟨w.heap.size, 0, none⟩ : Addr).add j) = some v := by
  intro j v hj
  match j, hj with
  | 0, hj =>
    simp at hj; subst hj
    rw [Go.WideShapes.add_plain]
    simp
  | j + 1, hj => simp at hj

theorem past {w : World} {o : Obj} {g : Nat} {f : List Nat} (h : g ∈ f ∨ (w.alloc o).heap.size ≤ g) : g ∈ f ∨ w.heap.size ≤ g := by
  rcases h with h | h
  · exact .inl h
  · simp at h; exact .inr (by omega)
theorem drop_at {α : Type} {l : List α} {k : Nat} {x : α} (h : l[k]? = some x) : l.drop k = x :: l.drop (k + 1) := by
  obtain ⟨h1, h2⟩ := List.getElem?_eq_some_iff.mp h
  rw [List.drop_eq_getElem_cons h1, h2]
theorem has_at {α : Type} (l : List α) {k : Nat} (h : k < l.length) : ∃ x, l[k]? = some x := ⟨_, List.getElem?_eq_getElem h⟩

/-- A slice type and its element's type: size in cells and in bytes. -/
def SliceOf (P : Program) (t e : TypeId) (sz bytes : Nat) : Prop :=
  P.underlying t = some (.slice e) ∧ ∃ i z, P.info? e = some i ∧ i.zero = some z ∧ i.size = sz ∧ i.bytes = bytes ∧ z.cells.size = sz ∧ 0 < sz

/-- 'append(s, u)' as the walk meets it: s was told in w; since then only the blocks S have turned; u has just been laid in a row of one. -/
theorem wpList_append_one {P : Program} (w w2 : World) {S : List Nat} (hU : Upd S w w2) {ops : Array Oper} {rest : List Oper} {o : Oper} {a : Act} {Q : Exit → Act → World → Prop} (hgd : o.guard = none) (s x : Operand) (t : TypeId)
    (ho : o.op = .call { callee := .builtin .append, args := #[s, x], argTypes := #[t, t] })
    (e : TypeId) (bytes : Nat) (hI : SliceOf P t e 1 bytes) (hby : bytes ≤ 100)
    (ao : Option Addr) (n cap : Nat) (fp : List Nat) (xs : List Value) (hs : a.eval s = .slice ao n cap) (hown : Sl w e 1 ao n cap fp xs) (hS : ∀ k ∈ fp, k ∉ S)
    (u : Value) (h1 : u.oneCell' = true) (c b : Nat) (hx : a.eval x = .slice (some ⟨b, 0, none⟩) 1 c) (hb2 : b = w2.heap.size) (hn : n < 1000000000000)
    (h : ∀ g' cap' w', Sl w' e 1 (some ⟨g', 0, none⟩) (n + 1) cap' [g'] (xs ++ [u]) → Upd (S ++ fp) w w' → (g' ∈ fp ∨ w.heap.size ≤ g') → wpList P ops Q rest (a.put o.dst (.slice (some ⟨g', 0, none⟩) (n + 1) cap')) w') : wpList P ops Q (o :: rest) a (w2.alloc (.cells #[u] e)) := by
  obtain ⟨hu, i, z, hi, hz, hsize, hb, hzs, hsz⟩ := hI
  subst hb2
  have hk : Upd S w (w2.alloc (.cells #[u] e)) := hU.trans (Upd.alloc S _ _) (fun x hx => .inl hx)
  refine wpList_append_sl _ hgd s x t ho e i z 1 bytes hu hi hz hsize hb hzs hsz ao n cap fp xs hs (hown.keep hk hS) ⟨w2.heap.size, 0, none⟩ 1 c [u] hx rfl (one_new _ _ _) (by simpa using h1) (by decide) (by unfold maxLen; omega) (by
    have : (n + 1) * bytes ≤ 1000000000000 * 100 := Nat.mul_le_mul (by omega) hby
    omega) ?_
  intro g' cap' w' h2 h3 h4
  refine h g' cap' w' h2 ((hk.mono (T := S ++ fp) (fun k hk => .inl (by simp [hk]))).trans h3 (fun x hx => .inl (by simp [hx]))) ?_
  rcases h4 with h4 | h4
  · exact .inl h4
  · exact .inr (Nat.le_trans hk.size h4)
theorem step_append_one {P : Program} (w w2 : World) {S : List Nat} (hU : Upd S w w2) {ops : Array Oper} {o : Oper} {a : Act} {K : Act → World → Prop} {Q : Exit → Act → World → Prop} {E : Prop} (hgd : o.guard = none) (s x : Operand) (t : TypeId)
    (ho : o.op = .call { callee := .builtin .append, args := #[s, x], argTypes := #[t, t] })
    (e : TypeId) (bytes : Nat) (hI : SliceOf P t e 1 bytes) (hby : bytes ≤ 100)
    (ao : Option Addr) (n cap : Nat) (fp : List Nat) (xs : List Value) (hs : a.eval s = .slice ao n cap) (hown : Sl w e 1 ao n cap fp xs) (hS : ∀ k ∈ fp, k ∉ S)
    (u : Value) (h1 : u.oneCell' = true) (c b : Nat) (hx : a.eval x = .slice (some ⟨b, 0, none⟩) 1 c) (hb2 : b = w2.heap.size) (hn : n < 1000000000000)
    (h : ∀ g' cap' w', Sl w' e 1 (some ⟨g', 0, none⟩) (n + 1) cap' [g'] (xs ++ [u]) → Upd (S ++ fp) w w' → (g' ∈ fp ∨ w.heap.size ≤ g') → K (a.put o.dst (.slice (some ⟨g', 0, none⟩) (n + 1) cap')) w') :
    if Region.wanted o (yielded ops a.tmps) = true then Oper.wp P o a (w2.alloc (.cells #[u] e)) K Q else E := by
  obtain ⟨hu, i, z, hi, hz, hsize, hb, hzs, hsz⟩ := hI
  subst hb2
  have hk : Upd S w (w2.alloc (.cells #[u] e)) := hU.trans (Upd.alloc S _ _) (fun x hx => .inl hx)
  refine step_append_sl hgd s x t ho e i z 1 bytes hu hi hz hsize hb hzs hsz ao n cap fp xs hs (hown.keep hk hS) ⟨w2.heap.size, 0, none⟩ 1 c [u] hx rfl (one_new _ _ _) (by simpa using h1) (by decide) (by unfold maxLen; omega) (by
    have : (n + 1) * bytes ≤ 1000000000000 * 100 := Nat.mul_le_mul (by omega) hby
    omega) ?_
  intro g' cap' w' h2 h3 h4
  refine h g' cap' w' h2 ((hk.mono (T := S ++ fp) (fun k hk => .inl (by simp [hk]))).trans h3 (fun x hx => .inl (by simp [hx]))) ?_
  rcases h4 with h4 | h4
  · exact .inl h4
  · exact .inr (Nat.le_trans hk.size h4)

/-- m cells of a zero value, laid over and over. -/
def zeros (z : Value) (m : Nat) : List Value := (List.range m).map (fun j => z.cells[j % z.cells.size]!)
theorem zeros_one (z : Value) (h : z.cells = #[z]) (m : Nat) : zeros z m = List.replicate m z := by
  rw [List.eq_replicate_iff]
  refine ⟨by simp [zeros], ?_⟩
  intro b hb
  simp only [zeros, h, List.mem_map] at hb
  obtain ⟨j, _, rfl⟩ := hb
  simp [Nat.mod_one]

/-- A slice type, its element's type, zero value, size in cells and in bytes. -/
def MakeOf (P : Program) (t e : TypeId) (z : Value) (sz bytes : Nat) : Prop :=
  P.underlying t = some (.slice e) ∧ ∃ i, P.info? e = some i ∧ i.zero = some z ∧ i.size = sz ∧ i.bytes = bytes
theorem MakeOf.mk {P : Program} {t e : TypeId} {z : Value} {sz bytes : Nat} (h : P.underlying t = some (.slice e)) (hi : (P.info? e).map (fun i => (i.zero, i.size, i.bytes)) = some (some z, sz, bytes)) : MakeOf P t e z sz bytes := by
  obtain ⟨i, h1, h2, h3, h4⟩ := info_parts hi
  exact ⟨h, i, h1, h2, h3, h4⟩
theorem MakeOf.slice {P : Program} {t e : TypeId} {z : Value} {sz bytes : Nat} (h : MakeOf P t e z sz bytes) (h1 : z.cells.size = sz) (h2 : 0 < sz) : SliceOf P t e sz bytes := by
  obtain ⟨h, i, h3, h4, h5, h6⟩ := h
  exact ⟨h, i, z, h3, h4, h5, h6, h1, h2⟩

/-- 'make([]T, n, c)': an equation for the walk. -/
theorem MakeOf.made {P : Program} {t e : TypeId} {z : Value} {sz bytes : Nat} (H : MakeOf P t e z sz bytes) (n c : Nat) (hnc : n ≤ c) (hc : c < 1000000) (hby : bytes ≤ 1000) (w : World) :
    (Instr.makeSlice t (.int .i64 (n : Int)) (.int .i64 (c : Int))).run P w = .ok (.slice (some ⟨w.heap.size, 0, none⟩) n c) (w.alloc (.cells (zeros z (c * sz)).toArray e)) := by
  obtain ⟨hu, i, hi, hz, hsz, hb⟩ := H
  have h1 : (i.bytes : Int) * (c : Int) ≤ 281474976710656 := by
    have : i.bytes * c ≤ 1000 * 1000000 := Nat.mul_le_mul (by omega) (by omega)
    have h : ((i.bytes * c : Nat) : Int) ≤ 281474976710656 := by omega
    rwa [Int.natCast_mul] at h
  have hr := run_make (P := P) w t e i z hu hi hz .i64 .i64 (n : Int) (c : Int) (by omega) (by omega) h1 (by omega)
  simp only [Int.toNat_natCast] at hr
  subst hsz
  rw [hr]
  congr 3
  apply Array.ext'
  simp [madeCells, zeros]
theorem Sl.made (w : World) (e : TypeId) (z : Value) (sz n c : Nat) (hnc : n ≤ c) (hc : c < 1000000) : Sl (w.alloc (.cells (zeros z (c * sz)).toArray e)) e sz (some ⟨w.heap.size, 0, none⟩) n c [w.heap.size] (zeros z (n * sz)) := by
  refine ⟨by simp [zeros], .inr ⟨_, _, rfl, rfl, Blk.new _ _ _, hnc, by unfold maxLen; omega, by simp [zeros], ?_⟩⟩
  have h2 : n * sz ≤ c * sz := Nat.mul_le_mul_right _ hnc
  apply List.ext_getElem?
  intro j
  simp only [zeros, List.getElem?_take, List.getElem?_map]
  by_cases hj : j < n * sz
  · simp [hj, show j < c * sz by omega]
  · simp [hj]
end Go.Ord
