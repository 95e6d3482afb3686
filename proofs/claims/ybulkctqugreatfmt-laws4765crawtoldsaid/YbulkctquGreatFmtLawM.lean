/-
  The law's history in memory, while it is built.
-/
import Derived.Test.YbulkctquGreatFmtEvent
import Derived.Test.YbulkctquGreatFmtInit
import Derived.Test.YbulkctquGreatFmtMaps2
import Derived.Test.YbulkctquGreatFmtPlS
namespace Go.Proofs.YbulkctquGreatFmt
open Go.ChangeShapes Go.WideShapes Go.ChangeAt Go.RowKit Go.Ord
set_option linter.unusedVariables false

theorem _root_.Go.Ord.Blk.ty {w : World} {k : Nat} {e e' : TypeId} {c c' : Array Value} (h : Blk w k e c) (h' : Blk w k e' c') : e = e' := by
  have h1 : w.heap[k]? = some (.cells c e (0, 0)) := h
  have h2 : w.heap[k]? = some (.cells c' e' (0, 0)) := h'
  rw [h1] at h2
  injection h2 with h2
  injection h2
theorem _root_.Go.Ord.Sl.ty {w : World} {e : TypeId} {sz : Nat} {a : Option Addr} {n cap : Nat} {fp : List Nat} {xs : List Value} (h : Sl w e sz a n cap fp xs) : ∀ k ∈ fp, ∃ c, Blk w k e c := by
  intro k hk
  rcases h.lies with ⟨_, _, _, rfl⟩ | ⟨g, cur, _, rfl, hb, _⟩
  · simp at hk
  · simp at hk; subst hk; exact ⟨cur, hb⟩
theorem _root_.Go.Ord.MapAt.notBlk {κ : Type} [DecidableEq κ] {kv : κ → Value} {w : World} {b : Nat} {f : κ → Option Value} (h : MapAt w kv b f) {e : TypeId} {c : Array Value} (hb : Blk w b e c) : False := by
  obtain ⟨es, cl, h1, _⟩ := h.lies
  have h2 : w.heap[b]? = some (.cells c e (0, 0)) := hb
  rw [h1] at h2
  cases h2
/-- A session in memory. -/
structure SD where
  sv : SV
  fs : List Nat
  eb : List Nat
def txC (p : Tx × Nat) : List Value := [.slice (some ⟨p.2, 0, none⟩) p.1.evs.length p.1.evs.length, .bool p.1.com]
def EvsAt (b : Nat) (evs : List Ev) (w : World) : Prop := Sl w 37 4 (some ⟨b, 0, none⟩) evs.length evs.length [b] (evs.flatMap Ev.cells)
structure SesAt (d : SD) (l : List Tx) (w : World) : Prop where
  n : d.sv.n = l.length
  len : d.eb.length = l.length
  row : Sl w 39 2 d.sv.a d.sv.n d.sv.c d.fs ((l.zip d.eb).flatMap txC)
  evs : ∀ (k : Nat) (t : Tx) (b : Nat), l[k]? = some t → d.eb[k]? = some b → EvsAt b t.evs w
structure HB (w0 w : World) (bH bS bM : Nat) (D : List SD) (hs : List (List Tx)) (cur : Nat → Option Nat) : Prop where
  bel : Below w0.heap.size w0 w
  h : Blk w bH 29 #[.slice (some ⟨bS, 0, none⟩) 3 3]
  m : MapAt w (ik .u64) bM (fun y => (cur y).map (ik .u64))
  top : Sl w 30 1 (some ⟨bS, 0, none⟩) 3 3 [bS] (D.map (fun d => d.sv.val))
  lD : D.length = 3
  lH : hs.length = 3
  ses : ∀ (s : Nat) (d : SD) (l : List Tx), D[s]? = some d → hs[s]? = some l → SesAt d l w
  ap : ∀ (s s' : Nat) (d d' : SD), D[s]? = some d → D[s']? = some d' → s ≠ s' → ∀ k ∈ d.fs, k ∉ d'.fs
  geH : w0.heap.size ≤ bH
  geS : w0.heap.size ≤ bS
  geM : w0.heap.size ≤ bM
  geF : ∀ (s : Nat) (d : SD), D[s]? = some d → ∀ k ∈ d.fs, w0.heap.size ≤ k
section
variable {w0 w w' : World} {bH bS bM : Nat} {D : List SD} {hs : List (List Tx)} {cur : Nat → Option Nat}
theorem HB.eb_ty (h : HB w0 w bH bS bM D hs cur) {s : Nat} {d : SD} (hd : D[s]? = some d) : ∀ b ∈ d.eb, ∃ c, Blk w b 37 c := by
  intro b hb
  obtain ⟨k, hk⟩ := List.getElem?_of_mem hb
  obtain ⟨l, hl⟩ := has_at hs (k := s) (by have := (List.getElem?_eq_some_iff.mp hd).1; rw [h.lH, ← h.lD]; exact this)
  have S := h.ses s d l hd hl
  obtain ⟨t, ht⟩ := has_at l (k := k) (by rw [← S.len]; exact (List.getElem?_eq_some_iff.mp hk).1)
  exact Sl.ty (S.evs k t b ht hk) b (by simp)
theorem HB.keep (h : HB w0 w bH bS bM D hs cur) {S : List Nat} (hu : Upd S w w') (h1 : bH ∉ S) (h2 : bS ∉ S) (h3 : bM ∉ S) (h4 : ∀ (s : Nat) (d : SD), D[s]? = some d → (∀ k ∈ d.fs, k ∉ S) ∧ ∀ k ∈ d.eb, k ∉ S) (h5 : ∀ k ∈ S, w0.heap.size ≤ k) : HB w0 w' bH bS bM D hs cur := by
  refine ⟨h.bel.trans (hu.below h.bel.size h5), h.h.keep hu h1, h.m.keep hu h3, h.top.keep hu (by simpa using h2), h.lD, h.lH, fun s d l hd hl => ?_, h.ap, h.geH, h.geS, h.geM, h.geF⟩
  have S0 := h.ses s d l hd hl
  exact ⟨S0.n, S0.len, S0.row.keep hu (h4 s d hd).1, fun k t b ht hb => Sl.keep (S0.evs k t b ht hb) hu (by intro k' hk'; simp at hk'; subst hk'; exact (h4 s d hd).2 _ (List.mem_of_getElem? hb))⟩
theorem HB.new (h : HB w0 w bH bS bM D hs cur) (hu : Upd [] w w') : HB w0 w' bH bS bM D hs cur := h.keep hu (by simp) (by simp) (by simp) (fun _ _ _ => ⟨by simp, by simp⟩) (by simp)
/-- A row of events that is none of the history's. -/
theorem HB.row (h : HB w0 w bH bS bM D hs cur) {bE : Nat} {c : Array Value} (hb : Blk w bE 37 c) (hn : ∀ (s : Nat) (d : SD), D[s]? = some d → bE ∉ d.eb) (hg : w0.heap.size ≤ bE) (hu : Upd [bE] w w') : HB w0 w' bH bS bM D hs cur := by
  refine h.keep hu ?_ ?_ ?_ (fun s d hd => ⟨fun k hk hm => ?_, fun k hk hm => ?_⟩) (by simpa using hg)
  · intro hm; simp at hm; subst hm; exact absurd (h.h.ty hb) (by decide)
  · intro hm; simp at hm; subst hm; obtain ⟨c', hc⟩ := h.top.ty bS (by simp); exact absurd (hc.ty hb) (by decide)
  · intro hm; simp at hm; subst hm; exact h.m.notBlk hb
  · simp at hm; subst hm
    obtain ⟨l, hl⟩ := has_at hs (k := s) (by have := (List.getElem?_eq_some_iff.mp hd).1; rw [h.lH, ← h.lD]; exact this)
    obtain ⟨c', hc⟩ := (h.ses s d l hd hl).row.ty k hk
    exact absurd (hc.ty hb) (by decide)
  · simp at hm; subst hm; exact hn s d hd hk
/-- The map alone. -/
theorem HB.map (h : HB w0 w bH bS bM D hs cur) {cur' : Nat → Option Nat} (m' : MapAt w' (ik .u64) bM (fun y => (cur' y).map (ik .u64))) (hu : Upd [bM] w w') : HB w0 w' bH bS bM D hs cur' := by
  have h' : ∀ {e : TypeId} {c : Array Value}, ¬ Blk w bM e c := fun hb => h.m.notBlk hb
  refine ⟨h.bel.trans (hu.below h.bel.size (by simpa using h.geM)), h.h.keep hu (fun hm => ?_), m', h.top.keep hu (fun k hk hm => ?_), h.lD, h.lH, fun s d l hd hl => ?_, h.ap, h.geH, h.geS, h.geM, h.geF⟩
  · simp at hm; subst hm; exact h' h.h
  · simp at hk hm; subst hm; obtain ⟨c, hc⟩ := h.top.ty bS (by simp); rw [← hk] at hc; exact h' hc
  · have S0 := h.ses s d l hd hl
    refine ⟨S0.n, S0.len, S0.row.keep hu (fun k hk hm => ?_), fun k t b ht hb => Sl.keep (S0.evs k t b ht hb) hu (fun k' hk' hm => ?_)⟩
    · simp at hm; subst hm; obtain ⟨c, hc⟩ := S0.row.ty _ hk; exact h' hc
    · simp at hk' hm; obtain ⟨c, hc⟩ := Sl.ty (S0.evs k t b ht hb) b (by simp); rw [← hk', hm] at hc; exact h' hc
theorem zip_snoc {α β : Type} : ∀ (l : List α) (m : List β) (a : α) (b : β), m.length = l.length → (l ++ [a]).zip (m ++ [b]) = l.zip m ++ [(a, b)]
  | [], [], _, _, _ => rfl
  | [], _ :: _, _, _, h => by simp at h
  | _ :: _, [], _, _, h => by simp at h
  | x :: l, y :: m, a, b, h => by simp [zip_snoc l m a b (by simpa using h)]
/-- One transaction more. -/
theorem HB.app (h : HB w0 w bH bS bM D hs cur) {s : Nat} {d : SD} {l : List Tx} (hd : D[s]? = some d) (hl : hs[s]? = some l) {tx : Tx} {bE : Nat} (hE : EvsAt bE tx.evs w) {w1 : World} {g c : Nat}
    (s1 : Sl w1 39 2 (some ⟨g, 0, none⟩) (d.sv.n + 1) c [g] ((l.zip d.eb).flatMap txC ++ [.slice (some ⟨bE, 0, none⟩) tx.evs.length tx.evs.length, .bool tx.com])) (U : Upd d.fs w w1) (F : g ∈ d.fs ∨ w.heap.size ≤ g) :
    HB w0 (w1.setCell ⟨bS, s, none⟩ (.slice (some ⟨g, 0, none⟩) (d.sv.n + 1) c)) bH bS bM (D.set s ⟨⟨some ⟨g, 0, none⟩, d.sv.n + 1, c⟩, [g], d.eb ++ [bE]⟩) (hs.set s (l ++ [tx])) cur := by
  have hsl := (List.getElem?_eq_some_iff.mp hd).1
  have hsh := (List.getElem?_eq_some_iff.mp hl).1
  have S0 := h.ses s d l hd hl
  obtain ⟨cS, hcS⟩ := h.top.ty bS (by simp)
  have hgS : g ≠ bS := by
    rintro rfl
    rcases F with f | f
    · obtain ⟨c', hc'⟩ := S0.row.ty _ f; exact absurd (hc'.ty hcS) (by decide)
    · have := hcS.lt; omega
  have nS : bS ∉ d.fs := fun hm => by obtain ⟨c', hc'⟩ := S0.row.ty _ hm; exact absurd (hc'.ty hcS) (by decide)
  have nH : bH ∉ d.fs := fun hm => by obtain ⟨c', hc'⟩ := S0.row.ty _ hm; exact absurd (hc'.ty h.h) (by decide)
  have nM : bM ∉ d.fs := fun hm => by obtain ⟨c', hc'⟩ := S0.row.ty _ hm; exact h.m.notBlk hc'
  have hHS : bH ≠ bS := fun e => by rw [e] at h; exact absurd (h.h.ty hcS) (by decide)
  have hMS : bM ≠ bS := fun e => h.m.notBlk (by rw [e]; exact hcS)
  have hst := Upd.store w1 bS s (.slice (some ⟨g, 0, none⟩) (d.sv.n + 1) c)
  have ev1 : ∀ {b : Nat} {evs : List Ev}, EvsAt b evs w → EvsAt b evs (w1.setCell ⟨bS, s, none⟩ (.slice (some ⟨g, 0, none⟩) (d.sv.n + 1) c)) := fun {b evs} he => by
    obtain ⟨c', hc'⟩ := Sl.ty he b (by simp)
    refine Sl.keep (Sl.keep he U (fun k hk hm => ?_)) hst (fun k hk hm => ?_)
    · simp at hk; subst hk; obtain ⟨c2, hc2⟩ := S0.row.ty _ hm; exact absurd (hc'.ty hc2) (by decide)
    · simp at hk hm; subst hk; rw [hm] at hc'; exact absurd (hc'.ty hcS) (by decide)
  refine ⟨?_, (h.h.keep U nH).keep hst (by simpa using hHS), (h.m.keep U nM).keep hst (by simpa using hMS), ?_, by simpa using h.lD, by simpa using h.lH, fun s' d' l' hd' hl' => ?_, fun a b da db ha hb hne k hk hm => ?_, h.geH, h.geS, h.geM, fun a da ha k hk => ?_⟩
  · exact (h.bel.trans (U.below h.bel.size (h.geF s d hd))).trans (hst.below (by have := h.bel.size; have := U.size; omega) (by simpa using h.geS))
  · have t1 := (h.top.keep U (fun k hk hm => by simp at hk; subst hk; exact nS hm)).store s (.slice (some ⟨g, 0, none⟩) (d.sv.n + 1) c)
    rw [List.map_set]
    exact t1
  · by_cases e : s = s'
    · subst e
      rw [List.getElem?_set_self hsl] at hd'
      rw [List.getElem?_set_self hsh] at hl'
      injection hd' with hd'
      injection hl' with hl'
      subst hd' hl'
      refine ⟨by simp [S0.n], by simp [S0.len], ?_, fun k t b ht hb => ?_⟩
      · have e1 : ((l ++ [tx]).zip (d.eb ++ [bE])).flatMap txC = (l.zip d.eb).flatMap txC ++ [.slice (some ⟨bE, 0, none⟩) tx.evs.length tx.evs.length, .bool tx.com] := by
          rw [zip_snoc l d.eb tx bE S0.len]; simp [txC]
        show Sl _ 39 2 (some ⟨g, 0, none⟩) (d.sv.n + 1) c [g] (((l ++ [tx]).zip (d.eb ++ [bE])).flatMap txC)
        rw [e1]
        exact s1.keep hst (fun k hk hm => by simp at hk hm; omega)
      · by_cases hk : k < l.length
        · rw [List.getElem?_append_left hk] at ht
          rw [List.getElem?_append_left (by rw [S0.len]; exact hk)] at hb
          exact ev1 (S0.evs k t b ht hb)
        · have hkl := (List.getElem?_eq_some_iff.mp ht).1
          simp at hkl
          have hk2 : k = l.length := by omega
          rw [hk2] at ht
          rw [hk2, ← S0.len] at hb
          simp at ht hb
          subst ht hb
          exact ev1 hE
    · rw [List.getElem?_set_ne e] at hd' hl'
      have S1 := h.ses s' d' l' hd' hl'
      refine ⟨S1.n, S1.len, (S1.row.keep U (fun k hk hm => h.ap s s' d d' hd hd' e k hm hk)).keep hst (fun k hk hm => ?_), fun k t b ht hb => ev1 (S1.evs k t b ht hb)⟩
      simp at hm; subst hm
      obtain ⟨c', hc'⟩ := S1.row.ty _ hk
      exact absurd (hc'.ty hcS) (by decide)
  · by_cases ea : s = a
    · subst ea
      rw [List.getElem?_set_self hsl] at ha
      injection ha with ha
      subst ha
      simp at hk; subst hk
      rw [List.getElem?_set_ne hne] at hb
      rcases F with f | f
      · exact h.ap s b d db hd hb hne _ f hm
      · obtain ⟨lb, hlb⟩ := has_at hs (k := b) (by have := (List.getElem?_eq_some_iff.mp hb).1; rw [h.lH, ← h.lD]; exact this)
        have := (h.ses b db lb hb hlb).row.lt _ hm; omega
    · rw [List.getElem?_set_ne ea] at ha
      by_cases eb : s = b
      · subst eb
        rw [List.getElem?_set_self hsl] at hb
        injection hb with hb
        subst hb
        simp at hm; subst hm
        rcases F with f | f
        · exact h.ap a s da d ha hd hne _ hk f
        · obtain ⟨la, hla⟩ := has_at hs (k := a) (by have := (List.getElem?_eq_some_iff.mp ha).1; rw [h.lH, ← h.lD]; exact this)
          have := (h.ses a da la ha hla).row.lt _ hk; omega
      · rw [List.getElem?_set_ne eb] at hb
        exact h.ap a b da db ha hb hne k hk hm
  · by_cases ea : s = a
    · subst ea
      rw [List.getElem?_set_self hsl] at ha
      injection ha with ha
      subst ha
      simp at hk; subst hk
      rcases F with f | f
      · exact h.geF s d hd _ f
      · have := h.bel.size; omega
    · rw [List.getElem?_set_ne ea] at ha
      exact h.geF a da ha k hk
/-- What is built is a history in memory. -/
theorem HB.hist (h : HB w0 w bH bS bM D hs cur) : ∃ R : HR, R.top = bS ∧ HistE w R hs := by
  let blkOf : Option Addr → Nat := fun a => match a with | some x => x.block | none => 0
  let dAt : Nat → SD := fun s => D.getD s ⟨⟨none, 0, 0⟩, [], []⟩
  have hdAt : ∀ s d, D[s]? = some d → dAt s = d := fun s d hd => by simp [dAt, hd]
  have hasD : ∀ s l, hs[s]? = some l → ∃ d, D[s]? = some d := fun s l hl => has_at D (by have := (List.getElem?_eq_some_iff.mp hl).1; rw [h.lD, ← h.lH]; exact this)
  refine ⟨⟨bS, fun s => blkOf (dAt s).sv.a, fun s => (dAt s).sv.c, fun s k => (dAt s).eb.getD k 0, fun s k => (((hs.getD s []).getD k ⟨[], false⟩).evs).length⟩, rfl, ⟨fun s l hl => ?_, fun s l k t hl ht => ?_, fun s l k t hl ht => ?_⟩, fun s l k t e v j u hl ht he hj => ?_⟩
  · obtain ⟨d, hd⟩ := hasD s l hl
    have S := h.ses s d l hd hl
    obtain ⟨g, e1, _, e3⟩ := h.top.get (j := s) (v := d.sv.val) (by simp [hd])
    injection e1 with e1
    injection e1 with e1
    subst e1
    refine ⟨d.sv.a, ?_, fun hne => ?_⟩
    · rw [e3]; simp only [hdAt s d hd]; simp [SV.val, S.n]
    · simp only [hdAt s d hd]
      obtain ⟨b, hb, _⟩ := S.row.has (by rw [S.n]; cases l with | nil => exact absurd rfl hne | cons a r => simp)
      rw [hb]
  · obtain ⟨d, hd⟩ := hasD s l hl
    have S := h.ses s d l hd hl
    have hkl := (List.getElem?_eq_some_iff.mp ht).1
    obtain ⟨b, hb⟩ := has_at d.eb (k := k) (by rw [S.len]; exact hkl)
    obtain ⟨g, e1, _, _, e3, _⟩ := S.row.has (by rw [S.n]; omega)
    have hz : (l.zip d.eb)[k]? = some (t, b) := by rw [List.getElem?_zip_eq_some]; exact ⟨ht, hb⟩
    simp only [hdAt s d hd, e1, blkOf]
    rw [e3 (k * 2 + 1) (by rw [S.n]; omega), flat3 txC 2 (fun _ => rfl) _ k 1 _ hz (by omega)]
    rfl
  · obtain ⟨d, hd⟩ := hasD s l hl
    have S := h.ses s d l hd hl
    have hkl := (List.getElem?_eq_some_iff.mp ht).1
    obtain ⟨b, hb⟩ := has_at d.eb (k := k) (by rw [S.len]; exact hkl)
    obtain ⟨g, e1, _, _, e3, _⟩ := S.row.has (by rw [S.n]; omega)
    have hz : (l.zip d.eb)[k]? = some (t, b) := by rw [List.getElem?_zip_eq_some]; exact ⟨ht, hb⟩
    refine ⟨some ⟨b, 0, none⟩, ?_, fun _ => by simp [hdAt s d hd, hb]⟩
    simp only [hdAt s d hd, e1, blkOf]
    have q := flat3 txC 2 (fun _ => rfl) _ k 0 _ hz (by omega)
    rw [Nat.add_zero] at q
    rw [e3 (k * 2) (by rw [S.n]; omega), q]
    simp [txC, hl, ht]
  · obtain ⟨d, hd⟩ := hasD s l hl
    have S := h.ses s d l hd hl
    have hkl := (List.getElem?_eq_some_iff.mp ht).1
    obtain ⟨b, hb⟩ := has_at d.eb (k := k) (by rw [S.len]; exact hkl)
    have hel := (List.getElem?_eq_some_iff.mp he).1
    have hj4 : j < 4 := (List.getElem?_eq_some_iff.mp hj).1
    have hE : Sl w 37 4 (some ⟨b, 0, none⟩) t.evs.length t.evs.length [b] (t.evs.flatMap Ev.cells) := S.evs k t b ht hb
    obtain ⟨g, e1, _, _, e3, _⟩ := hE.has (by omega)
    injection e1 with e1
    injection e1 with e1
    subst e1
    simp only [hdAt s d hd, hb, List.getD_eq_getElem?_getD, Option.getD_some]
    rw [e3 (e * 4 + j) (by omega), flat3 Ev.cells 4 (fun _ => rfl) _ e j v he hj4]
    exact hj
end
end Go.Proofs.YbulkctquGreatFmt
