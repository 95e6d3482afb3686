/-
  The law's rows of events while they are filled, and what comes in.
-/
import Derived.Test.YbulkctquGreatFmtLawM
import Derived.Test.YbulkctquGreatFmtNspP
namespace Go.Proofs.YbulkctquGreatFmt
open Go.ChangeShapes Go.WideShapes Go.ChangeAt Go.RowKit Go.Ord
set_option linter.unusedVariables false

theorem info37 : (Ybaz.prog.info? 37).map (fun i => (i.zero, i.size, i.bytes)) = some (some (.agg #[.int .u8 0, .int .u64 0, .int .u64 0, .bool false]), 4, 32) := by kernel_rfl
theorem mkEvs : MakeOf Ybaz.prog 31 37 (.agg #[.int .u8 0, .int .u64 0, .int .u64 0, .bool false]) 4 32 := MakeOf.mk Ybaz.underlying31 info37
theorem info30s : (Ybaz.prog.info? 30).map (fun i => (i.zero, i.size, i.bytes)) = some (some (.slice none 0 0), 1, 24) := by kernel_rfl
theorem mkSes : MakeOf Ybaz.prog 27 30 (.slice none 0 0) 1 24 := MakeOf.mk Ybaz.underlying27 info30s
theorem info39s : (Ybaz.prog.info? 39).map (fun i => (i.zero, i.size, i.bytes)) = some (some (.agg #[.slice none 0 0, .bool false]), 2, 32) := by kernel_rfl
theorem slTxs : SliceOf Ybaz.prog 30 39 2 32 := (MakeOf.mk Ybaz.underlying30 info39s).slice rfl (by decide)
theorem bs30 (a b : Value) (w : World) : (Instr.buildSlice 30 1 #[(0, .agg #[a, b])]).run Ybaz.prog w = .ok (.slice (some ⟨w.heap.size, 0, none⟩) 1 1) (w.alloc (.cells #[a, b] 39)) :=
  run_buildSlice_one Ybaz.underlying30 info39s (by decide) (by decide) _ _ (by kernel_rfl) w
def ev0 : Ev := ⟨0, 0, 0, false⟩
def evF (n : Nat) (es : List Ev) : List Ev := es ++ List.replicate (n - es.length) ev0
def RowAt (b n : Nat) (es : List Ev) (w : World) : Prop := Sl w 37 4 (some ⟨b, 0, none⟩) n n [b] ((evF n es).flatMap Ev.cells)
theorem evF_len {n : Nat} {es : List Ev} (h : es.length ≤ n) : (evF n es).length = n := by simp [evF]; omega
theorem evF_set {n : Nat} {es : List Ev} (h : es.length < n) (x : Ev) : (evF n es).set es.length x = evF n (es ++ [x]) := by
  unfold evF
  rw [List.set_append_right _ _ (by omega), show n - es.length = (n - (es ++ [x]).length) + 1 by simp; omega, List.replicate_succ]
  simp
theorem flat_set4 : ∀ (l : List Ev) (v : Nat) (x : Ev), v < l.length → ((((l.flatMap Ev.cells).set (v * 4) (.int .u8 x.k)).set (v * 4 + 1) (.int .u64 x.x)).set (v * 4 + 2) (.int .u64 x.v)).set (v * 4 + 3) (.bool x.i) = (l.set v x).flatMap Ev.cells
  | [], v, p, h => by simp at h
  | q :: l, 0, p, h => by simp [Ev.cells]
  | q :: l, v + 1, p, h => by
    have ih := flat_set4 l v p (by simpa using h)
    rw [List.flatMap_cons, List.set_cons_succ, List.flatMap_cons, ← ih]
    have hl : (Ev.cells q).length = 4 := rfl
    have e : ∀ j u (m : List Value), (Ev.cells q ++ m).set ((v + 1) * 4 + j) u = Ev.cells q ++ m.set (v * 4 + j) u := fun j u m => by
      rw [List.set_append_right _ _ (by omega), show (v + 1) * 4 + j - (Ev.cells q).length = v * 4 + j by omega]
    have e0 := e 0
    simp only [Nat.add_zero] at e0
    rw [e0, e 1, e 2, e 3]
theorem zerosEv (m : Nat) : zeros (.agg #[.int .u8 0, .int .u64 0, .int .u64 0, .bool false]) (m * 4) = (List.replicate m ev0).flatMap Ev.cells := by
  apply List.ext_getElem?
  intro i
  by_cases c : i < m * 4
  · have h1 : (zeros (.agg #[.int .u8 0, .int .u64 0, .int .u64 0, .bool false]) (m * 4))[i]? = some ((Value.agg #[.int .u8 0, .int .u64 0, .int .u64 0, .bool false]).cells[i % 4]!) := by
      simp [zeros, c, Value.cells]
    have h2 := flat3 Ev.cells 4 (fun _ => rfl) (List.replicate m ev0) (i / 4) (i % 4) ev0 (by rw [List.getElem?_replicate, if_pos (by omega)]) (by omega)
    rw [show i / 4 * 4 + i % 4 = i by omega] at h2
    rw [h1, h2]
    have : i % 4 = 0 ∨ i % 4 = 1 ∨ i % 4 = 2 ∨ i % 4 = 3 := by omega
    rcases this with h | h | h | h <;> rw [h] <;> rfl
  · have l2 : ((List.replicate m ev0).flatMap Ev.cells).length = m * 4 := by
      clear c
      induction m with
      | zero => rfl
      | succ m ih => rw [List.replicate_succ, List.flatMap_cons, List.length_append, ih]; show 4 + m * 4 = _; omega
    rw [List.getElem?_eq_none (by simp [zeros]; omega), List.getElem?_eq_none (by omega)]
theorem RowAt.made (w : World) (n : Nat) (h : n < 1000) : RowAt w.heap.size n [] (w.alloc (.cells (zeros (.agg #[.int .u8 0, .int .u64 0, .int .u64 0, .bool false]) (n * 4)).toArray 37)) := by
  have q := Sl.made w 37 (.agg #[.int .u8 0, .int .u64 0, .int .u64 0, .bool false]) 4 n n (Nat.le_refl _) (by omega)
  rw [zerosEv] at q ⊢
  unfold RowAt evF
  simpa using q
theorem RowAt.full {b n : Nat} {es : List Ev} {w : World} (h : RowAt b n es w) (hn : es.length = n) : EvsAt b es w := by
  unfold RowAt evF at h
  subst hn
  simp at h
  exact h
/-- One event more. -/
theorem RowAt.put {b n : Nat} {es : List Ev} {w : World} (h : RowAt b n es w) (hn : es.length < n) (x : Ev) :
    RowAt b n (es ++ [x]) ((((w.setCell ⟨b, es.length * 4, none⟩ (.int .u8 x.k)).setCell ⟨b, es.length * 4 + 1, none⟩ (.int .u64 x.x)).setCell ⟨b, es.length * 4 + 2, none⟩ (.int .u64 x.v)).setCell ⟨b, es.length * 4 + 3, none⟩ (.bool x.i)) ∧
    Upd [b] w ((((w.setCell ⟨b, es.length * 4, none⟩ (.int .u8 x.k)).setCell ⟨b, es.length * 4 + 1, none⟩ (.int .u64 x.x)).setCell ⟨b, es.length * 4 + 2, none⟩ (.int .u64 x.v)).setCell ⟨b, es.length * 4 + 3, none⟩ (.bool x.i)) := by
  have h' : Sl w 37 4 (some ⟨b, 0, none⟩) n n [b] ((evF n es).flatMap Ev.cells) := h
  have s := (((h'.store (es.length * 4) (.int .u8 x.k)).store (es.length * 4 + 1) (.int .u64 x.x)).store (es.length * 4 + 2) (.int .u64 x.v)).store (es.length * 4 + 3) (.bool x.i)
  rw [flat_set4 _ _ _ (by rw [evF_len (by omega)]; exact hn), evF_set hn] at s
  exact ⟨s, (((Upd.store _ _ _ _).trans (Upd.store _ _ _ _) (by simp)).trans (Upd.store _ _ _ _) (by simp)).trans (Upd.store _ _ _ _) (by simp)⟩
theorem RowAt.cell {b n : Nat} {es : List Ev} {w : World} (h : RowAt b n es w) {j : Nat} (hj : j < n * 4) : (∃ v, w.cell? ⟨b, j, none⟩ = some v) ∧ w.frozen? ⟨b, j, none⟩ = false := by
  have h' : Sl w 37 4 (some ⟨b, 0, none⟩) n n [b] ((evF n es).flatMap Ev.cells) := h
  obtain ⟨g, e1, _, _, e3, e4⟩ := h'.has (by omega)
  injection e1 with e1
  injection e1 with e1
  subst e1
  obtain ⟨v, hv⟩ := has_at ((evF n es).flatMap Ev.cells) (k := j) (by have := h'.len; omega)
  exact ⟨⟨v, (e3 j hj).trans hv⟩, e4 j⟩
theorem RowAt.blk {b n : Nat} {es : List Ev} {w : World} (h : RowAt b n es w) : ∃ c, Blk w b 37 c := Sl.ty h b (by simp)
theorem RowAt.keep {b n : Nat} {es : List Ev} {w w' : World} {S : List Nat} (h : RowAt b n es w) (hu : Upd S w w') (hn : b ∉ S) : RowAt b n es w' := Sl.keep h hu (by simpa using hn)
/-- The events that come in. -/
structure ArgV (w : World) (a : Option Addr) (es : List CE) : Prop where
  at_ : ∀ (j : Nat) (e : CE), es[j]? = some e → ∃ b o, a = some ⟨b, o, none⟩ ∧ w.cell? ⟨b, o + j * 2, none⟩ = some (.bool e.w) ∧ w.cell? ⟨b, o + j * 2 + 1, none⟩ = some (.int .u8 e.x) ∧ e.x < 256
structure ArgE (w : World) (a : Option Addr) (ts : List CT) : Prop where
  at_ : ∀ (i : Nat) (t : CT), ts[i]? = some t → ∃ b o ea ec, a = some ⟨b, o, none⟩ ∧ w.cell? ⟨b, o + i * 3, none⟩ = some (.int .u8 t.s) ∧ w.cell? ⟨b, o + i * 3 + 1, none⟩ = some (.bool t.ab) ∧ w.cell? ⟨b, o + i * 3 + 2, none⟩ = some (.slice ea t.evs.length ec) ∧ t.s < 256 ∧ ArgV w ea t.evs ∧ t.evs.length ≤ maxLen
theorem cell_bel {w w' : World} (h : Below w.heap.size w w') {x : Addr} {v : Value} (hc : w.cell? x = some v) : w'.cell? x = some v := by
  have hb := h.block x.block (World.block_lt_of_cell? _ _ hc)
  unfold World.cell? at hc ⊢
  rw [hb]; exact hc
theorem ArgV.bel {w w' : World} {a : Option Addr} {es : List CE} (h : ArgV w a es) (B : Below w.heap.size w w') : ArgV w' a es :=
  ⟨fun j e he => by obtain ⟨b, o, h1, h2, h3, h4⟩ := h.at_ j e he; exact ⟨b, o, h1, cell_bel B h2, cell_bel B h3, h4⟩⟩
theorem ArgE.bel {w w' : World} {a : Option Addr} {ts : List CT} (h : ArgE w a ts) (B : Below w.heap.size w w') : ArgE w' a ts :=
  ⟨fun j e he => by obtain ⟨b, o, ea, ec, h1, h2, h3, h4, h5, h6, h7⟩ := h.at_ j e he; exact ⟨b, o, ea, ec, h1, cell_bel B h2, cell_bel B h3, cell_bel B h4, h5, h6.bel B, h7⟩⟩
end Go.Proofs.YbulkctquGreatFmt
