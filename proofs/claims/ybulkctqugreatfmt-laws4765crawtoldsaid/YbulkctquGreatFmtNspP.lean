/-
  newSessionPolygraph, plainly: the committed transactions and what ranks them.
-/
import Derived.Test.YbulkctquGreatFmtApp
import Derived.Test.YbulkctquGreatFmtStable
import Derived.Test.YbulkctquGreatFmtSortH
import Derived.Test.YbulkctquGreatFmtMis
namespace Go.Proofs.YbulkctquGreatFmt
open Go.ChangeShapes Go.WideShapes Go.ChangeAt Go.RowKit Go.Ord
set_option linter.unusedVariables false

def rkStep (r : Rk) (v : Ev) : Rk := if v.i = false ∧ (r.t = false ∨ r.g < v.v) then { r with g := v.v, t := true, w := decide (v.k = 1) } else r
def rkOf (s k : Nat) (t : Tx) : Rk := t.evs.foldl rkStep ⟨s, k, 0, false, false⟩
def rksRow (s : Nat) : Nat → List Tx → List Rk
  | _, [] => []
  | k, t :: r => (if t.com then [rkOf s k t] else []) ++ rksRow s (k + 1) r
def rksAll : Nat → List (List Tx) → List Rk
  | _, [] => []
  | s, l :: r => rksRow s 0 l ++ rksAll (s + 1) r
def evRow (l : List Tx) : Nat := (l.map (fun t => t.evs.length)).sum
def evAll (hs : List (List Tx)) : Nat := (hs.map evRow).sum
theorem rkStep_yes {r : Rk} {v : Ev} (h1 : v.i = false) (h2 : r.t = false ∨ r.g < v.v) : rkStep r v = ⟨r.s, r.k, v.v, true, decide (v.k = 1)⟩ := by
  simp [rkStep, h1, h2]
theorem rkStep_no1 {r : Rk} {v : Ev} (h1 : v.i = true) : rkStep r v = r := by simp [rkStep, h1]
theorem rkStep_no2 {r : Rk} {v : Ev} (h1 : r.t = true) (h2 : ¬ r.g < v.v) : rkStep r v = r := by simp [rkStep, h1, h2]
theorem fold_take {α β : Type} (f : β → α → β) (b : β) {l : List α} {i : Nat} {x : α} (h : l[i]? = some x) : (l.take (i + 1)).foldl f b = f ((l.take i).foldl f b) x := by
  rw [take_snoc h, List.foldl_append]; rfl
theorem info125 : (Ybaz.prog.info? 125).map (fun i => (i.zero, i.size, i.bytes)) = some (some (.agg #[.int .i64 0, .int .i64 0, .int .u64 0, .bool false, .bool false]), 5, 32) := by kernel_rfl
theorem info35 : (Ybaz.prog.info? 35).map (fun i => (i.zero, i.size, i.bytes)) = some (some (.int .u64 0), 1, 8) := by kernel_rfl
theorem slRks : SliceOf Ybaz.prog 122 125 5 32 := (MakeOf.mk Ybaz.underlying122 info125).slice rfl (by decide)
theorem slVers : SliceOf Ybaz.prog 123 35 1 8 := (MakeOf.mk Ybaz.underlying123 info35).slice rfl (by decide)
theorem run_buildSlice_one {P : Program} {t e : TypeId} {sz : Nat} {z : Value} {bytes : Nat} (ht : P.underlying t = some (.slice e)) (hi : (P.info? e).map (fun i => (i.zero, i.size, i.bytes)) = some (some z, sz, bytes)) (hs : 0 < sz) (hs2 : sz < 1000) (v : Value) (cs : Array Value)
    (hf : Instr.fill (fun i => some (i * sz, sz)) ((Array.range (1 * sz)).map (z.cells[· % z.cells.size]!)) [(0, v)] = some cs) (w : World) :
    (Instr.buildSlice t 1 #[(0, v)]).run P w = .ok (.slice (some ⟨w.heap.size, 0, none⟩) 1 1) (w.alloc (.cells cs e)) := by
  cases hq : P.info? e with
  | none => rw [hq] at hi; cases hi
  | some i =>
    rw [hq] at hi
    simp only [Option.map_some, Option.some.injEq, Prod.mk.injEq] at hi
    obtain ⟨h1, h2, _⟩ := hi
    have hsz : ∀ w, (Go.sizeOf e).run P w = .ok sz w := fun w => by simp [Go.sizeOf, typeInfo, hq, h2]
    have hz : ∀ w, (zeroValue e).run P w = .ok z w := fun w => by simp [zeroValue, typeInfo, hq, h1]
    have h3 : ¬ (2 ^ 24 < sz) := by omega
    have h4 : ¬ (sz = 0) := by omega
    rw [Nat.one_mul] at hf
    simp [Instr.buildSlice, run_underlying ht, hsz, hz, h3, h4, hf, newRow]
theorem bs122 (a b c d e : Value) (w : World) : (Instr.buildSlice 122 1 #[(0, .agg #[a, b, c, d, e])]).run Ybaz.prog w = .ok (.slice (some ⟨w.heap.size, 0, none⟩) 1 1) (w.alloc (.cells #[a, b, c, d, e] 125)) :=
  run_buildSlice_one Ybaz.underlying122 info125 (by decide) (by decide) _ _ (by kernel_rfl) w
theorem bs123 (x : Int) (w : World) : (Instr.buildSlice 123 1 #[(0, .int .u64 x)]).run Ybaz.prog w = .ok (.slice (some ⟨w.heap.size, 0, none⟩) 1 1) (w.alloc (.cells #[.int .u64 x] 35)) :=
  run_buildSlice_one Ybaz.underlying123 info35 (by decide) (by decide) _ _ (by kernel_rfl) w
theorem bs83 (x : Int) (w : World) : (Instr.buildSlice 83 1 #[(0, .int .i64 x)]).run Ybaz.prog w = .ok (.slice (some ⟨w.heap.size, 0, none⟩) 1 1) (w.alloc (.cells #[.int .i64 x] 3)) :=
  run_buildSlice_one Ybaz.underlying83 info3 (by decide) (by decide) _ _ (by kernel_rfl) w
theorem info139 : (Ybaz.prog.info? 139).map (fun i => (i.zero, i.size, i.bytes)) = some (some (.agg #[.slice none 0 0, .slice none 0 0, .slice none 0 0]), 3, 72) := by kernel_rfl
theorem info142 : (Ybaz.prog.info? 142).map (fun i => (i.zero, i.size, i.bytes)) = some (some (.agg #[.int .i64 0, .int .i64 0, .int .i64 0, .slice none 0 0]), 4, 48) := by kernel_rfl
theorem bs90 (a b c : Value) (w : World) : (Instr.buildSlice 90 1 #[(0, .agg #[a, b, c])]).run Ybaz.prog w = .ok (.slice (some ⟨w.heap.size, 0, none⟩) 1 1) (w.alloc (.cells #[a, b, c] 139)) :=
  run_buildSlice_one Ybaz.underlying90 info139 (by decide) (by decide) _ _ (by kernel_rfl) w
theorem bs89 (a b c d : Value) (w : World) : (Instr.buildSlice 89 1 #[(0, .agg #[a, b, c, d])]).run Ybaz.prog w = .ok (.slice (some ⟨w.heap.size, 0, none⟩) 1 1) (w.alloc (.cells #[a, b, c, d] 142)) :=
  run_buildSlice_one Ybaz.underlying89 info142 (by decide) (by decide) _ _ (by kernel_rfl) w
theorem slObs : SliceOf Ybaz.prog 90 139 3 72 := (MakeOf.mk Ybaz.underlying90 info139).slice rfl (by decide)
theorem slSrs : SliceOf Ybaz.prog 89 142 4 48 := (MakeOf.mk Ybaz.underlying89 info142).slice rfl (by decide)
abbrev LA (w : World) (top n cap : Nat) (A : List Rk) (fC : List Nat) (V : List Nat) (fV : List Nat) : List Pc :=
  [([w.heap.size], CellIs w.heap.size (.slice (some ⟨top, 0, none⟩) n cap)), ((w.heap.size + 1) :: fC, BoxL (w.heap.size + 1) 0 125 5 A.length fC (A.flatMap Rk.cells)), ((w.heap.size + 2) :: fV, BoxL (w.heap.size + 2) 0 35 1 V.length fV (V.map (ik .u64)))]
theorem LA.first (w : World) (top n cap : Nat) : Pcs w (((w.alloc (.cells #[.slice (some ⟨top, 0, none⟩) n cap] 29)).alloc (.cells #[.slice none 0 0] 122)).alloc (.cells #[.slice none 0 0] 123)) (LA w top n cap [] [] [] []) := by
  obtain ⟨x1, e1⟩ : ∃ z : World, z = w.alloc (.cells #[.slice (some ⟨top, 0, none⟩) n cap] 29) := ⟨_, rfl⟩
  obtain ⟨x2, e2⟩ : ∃ z : World, z = x1.alloc (.cells #[.slice none 0 0] 122) := ⟨_, rfl⟩
  obtain ⟨x3, e3⟩ : ∃ z : World, z = x2.alloc (.cells #[.slice none 0 0] 123) := ⟨_, rfl⟩
  have z1 : x1.heap.size = w.heap.size + 1 := by rw [e1]; simp
  have z2 : x2.heap.size = w.heap.size + 2 := by rw [e2]; simp [z1]
  have z3 : x3.heap.size = w.heap.size + 3 := by rw [e3]; simp [z2]
  have u1 : Upd [] w x1 := by rw [e1]; exact Upd.alloc _ _ _
  have u2 : Upd [] x1 x2 := by rw [e2]; exact Upd.alloc _ _ _
  have u3 : Upd [] x2 x3 := by rw [e3]; exact Upd.alloc _ _ _
  have k1 : CellIs w.heap.size (.slice (some ⟨top, 0, none⟩) n cap) x1 := by rw [e1]; exact (Blk.new w #[.slice (some ⟨top, 0, none⟩) n cap] 29).cell 0
  have k2 := Blk.new x1 #[.slice none 0 0] 122
  rw [← e2, z1] at k2
  have k3 := Blk.new x2 #[.slice none 0 0] 123
  rw [← e3, z2] at k3
  rw [← e1, ← e2, ← e3]
  have p1 := (Pcs.start w).add u1 (by simp) [w.heap.size] _ k1 (CellIs.keeps _ _) (by simp; omega) (by simp)
  have p2 := p1.add u2 (by simp) [w.heap.size + 1] (BoxL (w.heap.size + 1) 0 125 5 0 [] []) (BoxL.empty 125 5 (Blk.cell k2 0) (Blk.free k2 0)) (BoxL.keeps _ _ _ _ _ _ _) (by simp; omega) (by simp)
  exact p2.add u3 (by simp) [w.heap.size + 2] (BoxL (w.heap.size + 2) 0 35 1 0 [] []) (BoxL.empty 35 1 (Blk.cell k3 0) (Blk.free k3 0)) (BoxL.keeps _ _ _ _ _ _ _) (by simp; omega) (by simp)
/-- The versions, sorted or not: numbers. -/
def VerU (b n : Nat) (fp : List Nat) (w : World) : Prop := ∃ a c, w.cell? ⟨b, 0, none⟩ = some (.slice a n c) ∧ (0 < n → ∃ g, a = some ⟨g, 0, none⟩ ∧ g ∈ fp ∧ URow w g n)
theorem URow.keep' {w w' : World} {g n : Nat} {S : List Nat} (h : URow w g n) (hn : 0 < n) (hu : Upd S w w') (hg : g ∉ S) : URow w' g n := by
  obtain ⟨G, hG⟩ := h.cells
  have hl : g < w.heap.size := World.block_lt_of_cell? _ _ (hG 0 hn)
  exact ⟨⟨G, fun t ht => hu.cell (hG t ht) hg⟩, fun t ht => hu.free hl (h.free t ht) hg⟩
theorem VerU.keeps (b n : Nat) (fp : List Nat) : Keeps (b :: fp) (VerU b n fp) := by
  rintro w w' S ⟨a, c, h1, h2⟩ hu hS
  refine ⟨a, c, hu.cell h1 (hS b (by simp)), fun hn => ?_⟩
  obtain ⟨g, e1, e2, e3⟩ := h2 hn
  exact ⟨g, e1, e2, e3.keep' hn hu (hS g (by simp [e2]))⟩
theorem urow_of {w : World} {b n c : Nat} {f : List Nat} {V : List Nat} (h : Sl w 35 1 (some ⟨b, 0, none⟩) n c f (V.map (ik .u64))) : URow w b n := by
  have hl := h.len
  simp at hl
  refine ⟨⟨fun t => ((V[t]?).getD 0 : Nat), fun t ht => ?_⟩, fun t ht => ?_⟩
  · obtain ⟨g, e, _, _, hc, _⟩ := h.has (by omega)
    injection e with e
    injection e with e
    subst e
    obtain ⟨x, hx⟩ := has_at V (k := t) (by omega)
    exact (hc t (by omega)).trans (by simp [hx, ik])
  · obtain ⟨g, e, _, _, _, hz⟩ := h.has (by omega)
    injection e with e
    injection e with e
    subst e
    exact hz t
abbrev LB (w : World) (top n cap : Nat) (A : List Rk) (fC : List Nat) (nV : Nat) (fV : List Nat) : List Pc :=
  [([w.heap.size], CellIs w.heap.size (.slice (some ⟨top, 0, none⟩) n cap)), ((w.heap.size + 1) :: fC, BoxL (w.heap.size + 1) 0 125 5 A.length fC (A.flatMap Rk.cells)), ((w.heap.size + 2) :: fV, VerU (w.heap.size + 2) nV fV)]
end Go.Proofs.YbulkctquGreatFmt
