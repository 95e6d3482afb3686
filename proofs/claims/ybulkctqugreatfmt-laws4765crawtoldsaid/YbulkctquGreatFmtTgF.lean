/-
  tangle: all that search holds.
-/
import Derived.Test.YbulkctquGreatFmtTgE
namespace Go.Proofs.YbulkctquGreatFmt
open Go.ChangeShapes Go.WideShapes Go.ChangeAt Go.RowKit Go.Ord
set_option linter.unusedVariables false

/-- What holds of the ways and the graph all along. -/
structure TK (ws : List (Alt × Alt)) (B : List (List Nat)) : Prop where
  wok : WsOk ws B.length
  fl : ∀ c v, (altOf ws c v).f.length ≤ 100
  wl : ws.length ≤ 60
  gl : B.length < 10000
  bw : wt B < 900000
  bin : ∀ u, ∀ x ∈ outs B u, x < B.length
theorem built_in {ws : List (Alt × Alt)} {n : Nat} (hw : WsOk ws n) : ∀ (tr : List Stp) (B : List (List Nat)), (∀ s ∈ tr, s.c < ws.length) → (∀ u, ∀ x ∈ outs B u, x < n) → ∀ u, ∀ x ∈ outs (built ws B tr) u, x < n
  | [], B, _, h => h
  | s :: tr, B, hl, h => by
    refine built_in hw tr (pickG B (altOf ws s.c s.w)) (fun t ht => hl t (by simp [ht])) (fun u x hx => ?_)
    rcases pick_mem _ _ _ _ _ hx with h1 | ⟨_, h1⟩
    · exact h u x h1
    · rw [h1]; exact (hw s.c s.w).2.2 (hl s (by simp))
theorem built_wt {ws : List (Alt × Alt)} (hf : ∀ c v, (altOf ws c v).f.length ≤ 100) : ∀ (tr : List Stp) (B : List (List Nat)), wt (built ws B tr) ≤ wt B + 100 * tr.length
  | [], B => by simp [built]
  | s :: tr, B => by
    have h1 := built_wt hf tr (pickG B (altOf ws s.c s.w))
    have h2 := arcsTo_wt (altOf ws s.c s.w).i (altOf ws s.c s.w).f B
    have h3 := hf s.c s.w
    show wt (built ws (pickG B (altOf ws s.c s.w)) tr) ≤ _
    unfold pickG at *
    simp only [List.length_cons]
    omega
theorem TS.inn {ws : List (Alt × Alt)} {B G : List (List Nat)} {ch : List Int} {tr : List Stp} (h : TS ws B G ch tr) (K : TK ws B) : (∀ u, ∀ x ∈ outs G u, x < G.length) ∧ wt G < 910000 := by
  constructor
  · intro u x hx
    rw [h.glen]
    rw [h.gq] at hx
    exact built_in K.wok tr B (fun s hs => (h.lt s hs).1) K.bin u x hx
  · have h1 := built_wt K.fl tr B
    have h2 := h.short
    have h3 := K.wl
    have h4 := K.bw
    rw [h.gq]
    omega
def txFp (d : Nat) (g : GG) (bC bE bT : Nat) (fT : List Nat) : List Nat := tanFp d g bC bE ++ (bT :: fT)
structure TX (d bW cW bC cC bE bT : Nat) (fV : List Nat) (ws : List (Alt × Alt)) (B : List (List Nat)) (J : List Bool) (g : GG) (fT : List Nat) (G : List (List Nat)) (ch se : List Int) (st : Int) (tr : List Stp) (w : World) : Prop where
  tg : TG d bW cW bC cC bE fV g G J ws ch se st w
  ts : TS ws B G ch tr
  tb : TrB bT fT tr w
  se : ∀ y ∈ se, 0 ≤ y ∧ y ≤ st
  s0 : 0 ≤ st
  dj : ∀ k ∈ bT :: fT, k ∉ tanFp d g bC bE ∧ k ∉ fV
section
variable {d bW cW bC cC bE bT : Nat} {fV : List Nat} {ws : List (Alt × Alt)} {B : List (List Nat)} {J : List Bool} {g : GG} {fT : List Nat} {G : List (List Nat)} {ch se : List Int} {st : Int} {tr : List Stp} {w : World}
theorem TX.lt (h : TX d bW cW bC cC bE bT fV ws B J g fT G ch se st tr w) : ∀ k ∈ txFp d g bC bE bT fT, k < w.heap.size := by
  intro k hk
  rcases List.mem_append.mp hk with h1 | h1
  · exact h.tg.lt k h1
  · exact h.tb.lt k h1
/-- Other blocks alone. -/
theorem TX.keep {w' : World} (h : TX d bW cW bC cC bE bT fV ws B J g fT G ch se st tr w) {S : List Nat} (hu : Upd S w w') (h1 : ∀ k ∈ txFp d g bC bE bT fT, k ∉ S) (h2 : ∀ k ∈ fV, k ∉ S) : TX d bW cW bC cC bE bT fV ws B J g fT G ch se st tr w' :=
  ⟨h.tg.keep hu (fun k hk => h1 k (List.mem_append_left _ hk)) h2, h.ts, h.tb.keep hu (fun k hk => h1 k (List.mem_append_right _ hk)), h.se, h.s0, h.dj⟩
theorem TX.open (h : TX d bW cW bC cC bE bT fV ws B J g fT G ch se st tr w) (K : TK ws B) {c v : Nat} (hc : c < ws.length) (hv : v ≤ 1) (hs : st < 9223372036854775800) :
    Calls Ybaz.prog 129 #[.pointer (some ⟨d, 0, none⟩), .int .i64 c, .int .i64 v] w fun e w' => ∃ (b : Bool) (se' : List Int) (g' : GG), e = .returned (.bool b) ∧ g'.foot = g.foot ∧ TX d bW cW bC cC bE bT fV ws B J g' fT G ch se' (st + 1) tr w' ∧ (b = true → OpenW G (altOf ws c v)) ∧ Upd (txFp d g bC bE bT fT) w w' := by
  have I := h.ts.inn K
  have gl := h.ts.glen
  have W := K.wok c v
  refine (open129 h.tg c v hc hv (by rw [gl]; exact W.2.2 hc) (fun t ht => by rw [gl]; exact W.2.1 t ht) I.1 h.se h.s0 (by omega) (by rw [gl]; exact K.gl) (by omega) (K.fl c v) (by have := K.wl; omega)).mono ?_
  rintro e w' ⟨b, se', g', rfl, h1, h2, h3, h4, h5⟩
  have ndT : ∀ k ∈ bT :: fT, k ∉ [d, bE] := fun k hk hm => (h.dj k hk).1 (by simp at hm; rcases hm with hm | hm <;> simp [tanFp, hm])
  refine ⟨b, se', g', rfl, h1, ⟨h2, h.ts, h.tb.keep h5 ndT, h3, by have := h.s0; omega, ?_⟩, h4, h5.mono (fun k hk => .inl ?_)⟩
  · intro k hk
    have := h.dj k hk
    rw [tanFp, h1]
    exact this
  · simp at hk
    rcases hk with hk | hk <;> simp [txFp, tanFp, hk]
/-- A way is made; the trail does not hold it yet. -/
theorem TX.pick (h : TX d bW cW bC cC bE bT fV ws B J g fT G ch se st tr w) (K : TK ws B) {c v : Nat} (hc : c < ws.length) (hv : v ≤ 1) :
    Calls Ybaz.prog 114 #[.pointer (some ⟨d, 0, none⟩), .int .i64 c, .int .i64 v] w fun e w' => e = .returned (.tuple #[]) ∧ ∃ g' : GG, TG d bW cW bC cC bE fV g' (pickG G (altOf ws c v)) J ws (ch.set c (v : Int)) se st w' ∧ TrB bT fT tr w' ∧ (∀ k ∈ bT :: fT, k ∉ tanFp d g' bC bE ∧ k ∉ fV) ∧ Upd (txFp d g bC bE bT fT) w w' ∧ ∀ k ∈ tanFp d g' bC bE, k ∈ tanFp d g bC bE ∨ w.heap.size ≤ k := by
  have I := h.ts.inn K
  have gl := h.ts.glen
  have W := K.wok c v
  refine (pick114 h.tg c v hc hv (fun t ht => by rw [gl]; exact W.2.1 t ht) (by omega) (K.fl c v) (by have := K.wl; omega)).mono ?_
  rintro e w' ⟨rfl, g', h1, h2, h3⟩
  refine ⟨rfl, g', h1, h.tb.keep h2 (fun k hk => (h.dj k hk).1), ?_, h2.mono (fun k hk => .inl (List.mem_append_left _ hk)), h3⟩
  intro k hk
  refine ⟨fun hm => ?_, (h.dj k hk).2⟩
  rcases h3 k hm with z | z
  · exact (h.dj k hk).1 z
  · have := h.tb.lt k hk; omega
/-- The trail takes it. -/
theorem made_any {w w0 : World} {g' : GG} {c v : Nat} (h0 : TX d bW cW bC cC bE bT fV ws B J g fT G ch se st tr w0) (K : TK ws B) (hu : Upd (txFp d g bC bE bT fT) w0 w) (hf : ∀ k ∈ tanFp d g' bC bE, k ∈ tanFp d g bC bE ∨ w0.heap.size ≤ k)
    (h1 : TG d bW cW bC cC bE fV g' (pickG G (altOf ws c v)) J ws (ch.set c (v : Int)) se st w) (h2 : TrB bT fT tr w) (h3 : ∀ k ∈ bT :: fT, k ∉ tanFp d g' bC bE ∧ k ∉ fV) (hc : ch[c]? = some (-1)) (hv : v ≤ 1) (ho : OpenW G (altOf ws c v)) :
    Calls Ybaz.prog 112 #[.int .i64 c, .pointer (some ⟨bT, 0, none⟩)] w fun e w' => e = .returned (.tuple #[]) ∧ ∃ fT', TX d bW cW bC cC bE bT fV ws B J g' fT' (pickG G (altOf ws c v)) (ch.set c (v : Int)) se st (tr ++ [⟨c, v, false⟩]) w' ∧ Upd (txFp d g bC bE bT fT) w0 w' ∧ ∀ k ∈ txFp d g' bC bE bT fT', k ∈ txFp d g bC bE bT fT ∨ w0.heap.size ≤ k := by
  refine (made112 h2 c v (by have := h0.ts.short; have := K.wl; omega)).mono ?_
  rintro e w' ⟨rfl, fT', q1, q2, q3⟩
  have z0 := hu.size
  have nT : ∀ k ∈ tanFp d g' bC bE, k ∉ bT :: fT := fun k hk hm => (h3 k hm).1 hk
  have nV : ∀ k ∈ fV, k ∉ bT :: fT := fun k hk hm => (h3 k hm).2 hk
  refine ⟨rfl, fT', ⟨h1.keep q2 nT nV, h0.ts.push hc hv ho (by simp), q1, h0.se, h0.s0, ?_⟩, hu.trans q2 (fun k hk => .inl (List.mem_append_right _ hk)), ?_⟩
  · intro k hk
    simp only [List.mem_cons] at hk
    rcases hk with rfl | hk
    · exact h3 k (by simp)
    · rcases q3 k hk with z | z
      · exact h3 k (by simp [z])
      · refine ⟨fun hm => ?_, fun hm => ?_⟩
        · have := h1.lt k hm; omega
        · have := h1.wv.lt k hm; omega
  · intro k hk
    rcases List.mem_append.mp hk with hk | hk
    · exact (hf k hk).imp (fun z => List.mem_append_left _ z) id
    · simp only [List.mem_cons] at hk
      rcases hk with rfl | hk
      · exact .inl (List.mem_append_right _ (by simp))
      · rcases q3 k hk with z | z
        · exact .inl (List.mem_append_right _ (by simp [z]))
        · exact .inr (by omega)
end
end Go.Proofs.YbulkctquGreatFmt
