/-
  What is of no program: append of one element of several cells.
-/
import Derived.Test.YbulkctquGreatFmtHeap
namespace Go.Ord
open Go.RowKit

theorem many_new (w : World) (us : List Value) (e : TypeId) : ∀ j v, us[j]? = some v → (w.alloc (.cells us.toArray e)).cell? ((⟨w.heap.size, 0, none⟩ : Addr).add j) = some v := by
  intro j v hj
  rw [Go.WideShapes.add_plain, Nat.zero_add, (Blk.new w us.toArray e).cell j]
  simpa using hj
/-- 'append(s, u)', u an element of several cells, told in w; since then only the blocks S have turned; u has just been laid in a row of one. -/
theorem wpList_append_elem {P : Program} (w w2 : World) {S : List Nat} (hU : Upd S w w2) {ops : Array Oper} {rest : List Oper} {o : Oper} {a : Act} {Q : Exit → Act → World → Prop} (hgd : o.guard = none) (s x : Operand) (t : TypeId)
    (ho : o.op = .call { callee := .builtin .append, args := #[s, x], argTypes := #[t, t] })
    (e : TypeId) (sz bytes : Nat) (hI : SliceOf P t e sz bytes) (hby : bytes ≤ 100)
    (ao : Option Addr) (n cap : Nat) (fp : List Nat) (xs : List Value) (hs : a.eval s = .slice ao n cap) (hown : Sl w e sz ao n cap fp xs) (hS : ∀ k ∈ fp, k ∉ S)
    (us : List Value) (hl : us.length = sz) (h1 : ∀ u ∈ us, u.oneCell' = true) (c b : Nat) (hx : a.eval x = .slice (some ⟨b, 0, none⟩) 1 c) (hb2 : b = w2.heap.size) (hn : n < 1000000000000)
    (h : ∀ g' cap' w', Sl w' e sz (some ⟨g', 0, none⟩) (n + 1) cap' [g'] (xs ++ us) → Upd (S ++ fp) w w' → (g' ∈ fp ∨ w.heap.size ≤ g') → wpList P ops Q rest (a.put o.dst (.slice (some ⟨g', 0, none⟩) (n + 1) cap')) w') : wpList P ops Q (o :: rest) a (w2.alloc (.cells us.toArray e)) := by
  obtain ⟨hu, i, z, hi, hz, hsize, hb, hzs, hsz⟩ := hI
  subst hb2
  have hk : Upd S w (w2.alloc (.cells us.toArray e)) := hU.trans (Upd.alloc S _ _) (fun x hx => .inl hx)
  refine wpList_append_sl _ hgd s x t ho e i z sz bytes hu hi hz hsize hb hzs hsz ao n cap fp xs hs (hown.keep hk hS) ⟨w2.heap.size, 0, none⟩ 1 c us hx (by omega) (many_new _ _ _) h1 (by decide) (by unfold maxLen; omega) (by
    have : (n + 1) * bytes ≤ 1000000000000 * 100 := Nat.mul_le_mul (by omega) hby
    omega) ?_
  intro g' cap' w' h2 h3 h4
  refine h g' cap' w' h2 ((hk.mono (T := S ++ fp) (fun k hk => .inl (by simp [hk]))).trans h3 (fun x hx => .inl (by simp [hx]))) ?_
  rcases h4 with h4 | h4
  · exact .inl h4
  · exact .inr (Nat.le_trans hk.size h4)
end Go.Ord
