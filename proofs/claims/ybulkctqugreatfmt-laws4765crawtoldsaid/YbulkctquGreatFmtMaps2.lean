/-
  Looks into maps, the answers told.
-/
import Derived.Test.YbulkctquGreatFmtMaps
namespace Go.Ord
open Go.RowKit

theorem wpList_look2 {P : Program} {w : World} {ops : Array Oper} {rest : List Oper} {o : Oper} {a : Act} {Q : Exit → Act → World → Prop}
    (hg : o.guard = none) (m x : Operand) (t : TypeId) (hop : o.op = Op.lookup t m x true) {κ : Type} [DecidableEq κ] {kv : κ → Value} {kt et : TypeId} (ht : P.underlying t = some (.map kt et)) (K : KeyLaw P kt kv)
    (b : Nat) (f : κ → Option Value) (hM : MapAt w kv b f) (k : κ) {z : Value} (hz : ∀ w, (zeroValue et).run P w = .ok z w) (hm : a.eval m = .map (some b)) (hx : a.eval x = kv k) (V : Value) (B : Bool) (hV : (f k).getD z = V) (hB : (f k).isSome = B)
    (h : wpList P ops Q rest (a.put o.dst (.tuple #[V, .bool B])) w) : wpList P ops Q (o :: rest) a w := by
  refine wpList_look hg m x t true hop ht K b f hM k hz hm hx ?_
  rw [hV, hB]
  exact h
theorem wpList_look1 {P : Program} {w : World} {ops : Array Oper} {rest : List Oper} {o : Oper} {a : Act} {Q : Exit → Act → World → Prop}
    (hg : o.guard = none) (m x : Operand) (t : TypeId) (hop : o.op = Op.lookup t m x false) {κ : Type} [DecidableEq κ] {kv : κ → Value} {kt et : TypeId} (ht : P.underlying t = some (.map kt et)) (K : KeyLaw P kt kv)
    (b : Nat) (f : κ → Option Value) (hM : MapAt w kv b f) (k : κ) {z : Value} (hz : ∀ w, (zeroValue et).run P w = .ok z w) (hm : a.eval m = .map (some b)) (hx : a.eval x = kv k) (V : Value) (hV : (f k).getD z = V)
    (h : wpList P ops Q rest (a.put o.dst V) w) : wpList P ops Q (o :: rest) a w := by
  refine wpList_look hg m x t false hop ht K b f hM k hz hm hx ?_
  rw [hV]
  exact h
theorem MapAt.congr {κ : Type} [DecidableEq κ] {kv : κ → Value} {w : World} {b : Nat} {f g : κ → Option Value} (h : MapAt w kv b f) (e : ∀ k, f k = g k) : MapAt w kv b g := by
  have : f = g := funext e
  rw [← this]; exact h
end Go.Ord
