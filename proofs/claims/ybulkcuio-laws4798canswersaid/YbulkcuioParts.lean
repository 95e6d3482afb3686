/-
  The callees' contracts, and what is known of the set while the law runs.
-/
import Derived.Test.YbulkcuioMap
import Derived.Handy
import Derived.Stop.Asserts
namespace Go.Proofs.Ybulkcuio.lawS4798CAnswer
open Go.ChangeShapes Go.WideShapes Go.ChangeAt Go.RowKit
open Go.ChangeMaps (setBlock heap_setBlock_same heap_setBlock_other)
set_option linter.unusedVariables false

theorem header_any (a : Addr) (w : World) : Calls Yba.prog 25 #[.pointer (some a)] w fun e w' => e = .returned (.pointer (some a)) ∧ w' = w := by
  go_enter Yba.func25, Yba.ntmps25
  go_wp2
  go_ret
  exact ⟨rfl, rfl⟩

theorem dead_any (b : Nat) (r : Int) (w : World) (h : w.cell? ⟨b, 0, none⟩ = some (.int .i64 r)) : Calls Yba.prog 6 #[.pointer (some ⟨b, 0, none⟩)] w fun e w' => e = .returned (.bool (decide (r < 0))) ∧ w' = w := by
  go_enter Yba.func6, Yba.ntmps6
  go_wp2
  go_ret
  exact ⟨rfl, rfl⟩

theorem has_any (c m b : Nat) (r : Bool) (w : World) (hc : w.cell? ⟨c, 28, none⟩ = some (.map (some m)))
    (hl : (Instr.lookup 24 (.map (some m)) (.pointer (some ⟨b, 0, none⟩)) true).run Yba.prog w = .ok (.tuple #[.agg #[], .bool r]) w) :
    Calls Yba.prog 7 #[.pointer (some ⟨c, 28, none⟩), .pointer (some ⟨b, 0, none⟩)] w fun e w' => e = .returned (.bool r) ∧ w' = w.alloc (.cells #[] 53) := by
  go_enter Yba.func7, Yba.ntmps7
  go_wp2
  go_ret
  exact ⟨rfl, rfl⟩

theorem hasfin_any (b : Nat) (r : Bool) (w : World) (h2 : w.cell? ⟨b, 2, none⟩ = some (.bool r)) (h3 : w.cell? ⟨b, 3, none⟩ = some (.int .i64 0)) (hf : w.frozen? ⟨b, 3, none⟩ = false) :
    Calls Yba.prog 27 #[.pointer (some ⟨b, 0, none⟩)] w fun e w' => e = .returned (.bool r) ∧ w' = w.setCell ⟨b, 3, none⟩ (.int .i64 1) := by
  go_enter Yba.func27, Yba.ntmps27
  go_wp2
  go_ret
  exact ⟨rfl, rfl⟩

theorem asserts56 (v : Value) (xT : TypeId) (w : World) : (Instr.typeAssert (.iface 56 v) xT 68 true).run Yba.prog w = .ok (.tuple #[.iface 56 v, .bool true]) w := run_typeAssert_hasB Yba.underlying68 (by kernel_rfl) v xT w
theorem asserts59 (v : Value) (xT : TypeId) (w : World) : (Instr.typeAssert (.iface 59 v) xT 68 true).run Yba.prog w = .ok (.tuple #[.nilIface, .bool false]) w := run_typeAssert_lacksB Yba.underlying68 (by kernel_rfl) (by kernel_rfl) v xT w

set_option maxRecDepth 100000 in
theorem isfin_fin_dead (c b : Nat) (has : Bool) (r : Int) (w : World) (hr : r < 0) (h0 : w.cell? ⟨b, 0, none⟩ = some (.int .i64 r)) (h2 : w.cell? ⟨b, 2, none⟩ = some (.bool has)) (h3 : w.cell? ⟨b, 3, none⟩ = some (.int .i64 0)) (hf : w.frozen? ⟨b, 3, none⟩ = false) :
    Calls Yba.prog 5 #[.pointer (some ⟨c, 0, none⟩), .iface 56 (.pointer (some ⟨b, 0, none⟩))] w fun e w' => e = .returned (.bool has) ∧ w' = w.setCell ⟨b, 3, none⟩ (.int .i64 1) := by
  have h := asserts56
  go_enter Yba.func5, Yba.ntmps5
  go_wp2_with (first
    | (go_at_call 25; refine (header_any _ _).mono ?_; rintro e w' ⟨rfl, rfl⟩)
    | (go_at_call 6; refine (dead_any b r _ h0).mono ?_; rintro e w' ⟨rfl, rfl⟩)
    | (go_at_call 27; refine (hasfin_any b has _ h2 h3 hf).mono ?_; rintro e w' ⟨rfl, rfl⟩))
  go_ret
  exact ⟨rfl, rfl⟩

set_option maxRecDepth 100000 in
theorem isfin_plain_dead (c b : Nat) (r : Int) (w : World) (hr : r < 0) (h0 : w.cell? ⟨b, 0, none⟩ = some (.int .i64 r)) :
    Calls Yba.prog 5 #[.pointer (some ⟨c, 0, none⟩), .iface 59 (.pointer (some ⟨b, 0, none⟩))] w fun e w' => e = .returned (.bool false) ∧ w' = w := by
  have h := asserts59
  go_enter Yba.func5, Yba.ntmps5
  go_wp2_with (first
    | (go_at_call 25; refine (header_any _ _).mono ?_; rintro e w' ⟨rfl, rfl⟩)
    | (go_at_call 6; refine (dead_any b r _ h0).mono ?_; rintro e w' ⟨rfl, rfl⟩))
  go_ret
  exact ⟨rfl, rfl⟩

set_option maxRecDepth 100000 in
theorem isfin_live (t : Nat) (ht : t = 56 ∨ t = 59) (c m b : Nat) (r : Int) (x : Bool) (w : World) (hr : ¬ r < 0) (h0 : w.cell? ⟨b, 0, none⟩ = some (.int .i64 r)) (hc : w.cell? ⟨c, 28, none⟩ = some (.map (some m)))
    (hl : (Instr.lookup 24 (.map (some m)) (.pointer (some ⟨b, 0, none⟩)) true).run Yba.prog w = .ok (.tuple #[.agg #[], .bool x]) w) :
    Calls Yba.prog 5 #[.pointer (some ⟨c, 0, none⟩), .iface t (.pointer (some ⟨b, 0, none⟩))] w fun e w' => e = .returned (.bool x) ∧ w' = w.alloc (.cells #[] 53) := by
  rcases ht with rfl | rfl
  all_goals
    go_enter Yba.func5, Yba.ntmps5
    go_wp2_with (first
      | (go_at_call 25; refine (header_any _ _).mono ?_; rintro e w' ⟨rfl, rfl⟩)
      | (go_at_call 6; refine (dead_any b r _ h0).mono ?_; rintro e w' ⟨rfl, rfl⟩)
      | (go_at_call 7; refine (has_any c m b x _ hc hl).mono ?_; rintro e w' ⟨rfl, rfl⟩))
    go_ret
    exact ⟨rfl, rfl⟩

/-- What is known of the set and of the object's block b: the look-up of b answers x; the map holds n entries. -/
structure State (B b : Nat) (x : Bool) (n : Nat) (W : World) : Prop where
  map : ∃ es clk born, W.heap[B + 1]? = some (.map (if x then es.push { key := .pointer (some ⟨b, 0, none⟩), val := .agg #[], born := born } else es) clk) ∧ Keys W es.toList b ∧ (if x then es.push { key := .pointer (some ⟨b, 0, none⟩), val := .agg #[], born := born } else es).size = n
  blk : ∃ c t, W.heap[b]? = some (.cells c t (0, 0))

theorem State.len {B b n : Nat} {x : Bool} {W : World} (h : State B b x n W) (ty : TypeId) : (Builtin.len_ #[24] ty #[.map (some (B + 1))]).run Yba.prog W = .ok (.int .i64 n) W := by
  obtain ⟨es, clk, born, hm, hk, hs⟩ := h.map
  simp [Builtin.len_, run_underlying Yba.underlying24, MapKept.run_getObj_map hm, goInt, hs]

theorem State.look {B b n : Nat} {x : Bool} {W : World} (h : State B b x n W) : (Instr.lookup 24 (.map (some (B + 1))) (.pointer (some ⟨b, 0, none⟩)) true).run Yba.prog W = .ok (.tuple #[.agg #[], .bool x]) W := by
  obtain ⟨es, clk, born, hm, hk, hs⟩ := h.map
  obtain ⟨c, t, hb⟩ := h.blk
  cases x
  · exact look_none W hm (Nat.le_refl _) hb hk
  · exact look_last W hm (Nat.le_refl _) hb hk

/-- Every block of cells stays one; the map stays. -/
theorem State.keep {B b n : Nat} {x : Bool} {W W' : World} (h : State B b x n W) (hm : W'.heap[B + 1]? = W.heap[B + 1]?)
    (hs : ∀ (k : Nat) (c : Array Value) (t : TypeId), W.heap[k]? = some (.cells c t (0, 0)) → ∃ c', W'.heap[k]? = some (.cells c' t (0, 0))) : State B b x n W' := by
  obtain ⟨es, clk, born, hm', hk, hs'⟩ := h.map
  obtain ⟨c, t, hb⟩ := h.blk
  obtain ⟨c', hb'⟩ := hs b c t hb
  exact ⟨⟨es, clk, born, by rw [hm]; exact hm', Keys.mono hk (Nat.le_refl _) hs, hs'⟩, ⟨c', t, hb'⟩⟩

theorem State.alloc {B b n : Nat} {x : Bool} {W : World} (h : State B b x n W) (o : Obj) : State B b x n (W.alloc o) := by
  obtain ⟨es, clk, born, hm', hk, hs'⟩ := h.map
  refine h.keep ?_ (fun k c t hc => ⟨c, heap_alloc_lt hc⟩)
  rw [hm']; exact heap_alloc_lt hm'

theorem State.setCell {B b n : Nat} {x : Bool} {W : World} (h : State B b x n W) (j : Nat) (v : Value) : State B b x n (W.setCell ⟨b, j, none⟩ v) := by
  obtain ⟨es, clk, born, hm', hk, hs'⟩ := h.map
  obtain ⟨c, t, hb⟩ := h.blk
  have hne : B + 1 ≠ b := by intro e; rw [e, hb] at hm'; cases hm'
  refine h.keep (Below.heap_setCell _ _ _ _ hne) ?_
  intro k c' t' hc
  by_cases e : k = b
  · subst e
    simp only [World.setCell, Array.getElem?_modify, hc]
    exact ⟨_, rfl⟩
  · exact ⟨c', by rw [Below.heap_setCell _ _ _ _ e]; exact hc⟩

theorem Inv.state_no {B : Nat} {w wr : World} {es : Array MapEntry} {clock : Nat} (h : Inv B w wr es clock) (c : Array Value) (t : TypeId) : State B wr.heap.size false es.size (wr.alloc (.cells c t)) :=
  ⟨⟨es, clock, 0, heap_alloc_lt h.map, Keys.mono h.keys (Nat.le_refl _) (fun k c t h => ⟨c, heap_alloc_lt h⟩), rfl⟩, ⟨c, t, heap_alloc_at _ _⟩⟩

theorem Inv.state_yes {B : Nat} {w wr : World} {es : Array MapEntry} {clock : Nat} (h : Inv B w wr es clock) (hB : B = w.heap.size) (c : Array Value) (t : TypeId) :
    ∃ w2, (Instr.mapUpdate 24 (.map (some (B + 1))) (.pointer (some ⟨wr.heap.size, 0, none⟩)) (.agg #[])).run Yba.prog (wr.alloc (.cells c t)) = .ok () w2 ∧
      State B wr.heap.size true (es.size + 1) w2 ∧ Below B w w2 ∧ (∀ k, k ≠ B + 1 → w2.heap[k]? = (wr.alloc (.cells c t)).heap[k]?) := by
  obtain ⟨w2, hrun, hinv2, hoth⟩ := h.put hB c t
  refine ⟨w2, hrun, ⟨⟨es, _, _, hinv2.map, ?_, by simp⟩, ⟨c, t, ?_⟩⟩, hinv2.below, hoth⟩
  · refine Keys.mono h.keys (Nat.le_refl _) (fun k c' t' hk => ⟨c', ?_⟩)
    rw [hoth k (by intro e; rw [e, h.map] at hk; cases hk)]
    exact heap_alloc_lt hk
  · have := h.big
    rw [hoth _ (by omega)]
    exact heap_alloc_at _ _

end Go.Proofs.Ybulkcuio.lawS4798CAnswer
