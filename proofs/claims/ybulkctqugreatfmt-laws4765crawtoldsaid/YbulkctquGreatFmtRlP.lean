/-
  The raw law: what comes in, the history it says, and the history in memory while it is built.
-/
import Derived.Test.YbulkctquGreatFmtLawI
import Derived.Test.YbulkctquGreatFmtVrP
namespace Go.Proofs.YbulkctquGreatFmt
open Go.ChangeShapes Go.WideShapes Go.ChangeAt Go.RowKit Go.Ord
set_option linter.unusedVariables false

structure RV where
  k : Nat
  x : Nat
  v : Nat
  i : Bool
structure RwT where
  com : Bool
  evs : List RV
def kdOf (k : Nat) : Nat := if k = 255 then 2 else k % 2
def evR (r : RV) : Ev := ⟨kdOf r.k, r.x % 3, r.v % 8, r.i && (kdOf r.k == 0 || r.v == 7)⟩
def txR (t : RwT) : Tx := ⟨t.evs.map evR, t.com⟩
def hsR (ss : List (List RwT)) : List (List Tx) := ss.map (·.map txR)
/-- What comes in. -/
structure ArgRV (w : World) (a : Option Addr) (es : List RV) : Prop where
  at_ : ∀ (j : Nat) (e : RV), es[j]? = some e → ∃ b o, a = some ⟨b, o, none⟩ ∧ w.cell? ⟨b, o + j * 4, none⟩ = some (.int .u8 e.k) ∧ w.cell? ⟨b, o + j * 4 + 1, none⟩ = some (.int .u8 e.x) ∧ w.cell? ⟨b, o + j * 4 + 2, none⟩ = some (.int .u8 e.v) ∧ w.cell? ⟨b, o + j * 4 + 3, none⟩ = some (.bool e.i) ∧ e.k < 256 ∧ e.x < 256 ∧ e.v < 256
def NilOr (a : Option Addr) (n c : Nat) : Prop := (a = none ∧ n = 0 ∧ c = 0) ∨ ∃ x, a = some x
structure ArgRT (w : World) (a : Option Addr) (ts : List RwT) : Prop where
  at_ : ∀ (i : Nat) (t : RwT), ts[i]? = some t → ∃ b o ea ec, a = some ⟨b, o, none⟩ ∧ w.cell? ⟨b, o + i * 2, none⟩ = some (.bool t.com) ∧ w.cell? ⟨b, o + i * 2 + 1, none⟩ = some (.slice ea t.evs.length ec) ∧ ArgRV w ea t.evs ∧ t.evs.length ≤ maxLen ∧ NilOr ea t.evs.length ec
structure ArgRS (w : World) (a : Option Addr) (ss : List (List RwT)) : Prop where
  at_ : ∀ (i : Nat) (l : List RwT), ss[i]? = some l → ∃ b o ea ec, a = some ⟨b, o, none⟩ ∧ w.cell? ⟨b, o + i, none⟩ = some (.slice ea l.length ec) ∧ ArgRT w ea l ∧ l.length ≤ maxLen ∧ NilOr ea l.length ec
theorem ArgRV.bel {w w' : World} {a : Option Addr} {es : List RV} (h : ArgRV w a es) (B : Below w.heap.size w w') : ArgRV w' a es :=
  ⟨fun j e he => by obtain ⟨b, o, h1, h2, h3, h4, h5, h6⟩ := h.at_ j e he; exact ⟨b, o, h1, cell_bel B h2, cell_bel B h3, cell_bel B h4, cell_bel B h5, h6⟩⟩
theorem ArgRT.bel {w w' : World} {a : Option Addr} {ts : List RwT} (h : ArgRT w a ts) (B : Below w.heap.size w w') : ArgRT w' a ts :=
  ⟨fun j e he => by obtain ⟨b, o, ea, ec, h1, h2, h3, h4, h5⟩ := h.at_ j e he; exact ⟨b, o, ea, ec, h1, cell_bel B h2, cell_bel B h3, h4.bel B, h5⟩⟩
theorem ArgRS.bel {w w' : World} {a : Option Addr} {ss : List (List RwT)} (h : ArgRS w a ss) (B : Below w.heap.size w w') : ArgRS w' a ss :=
  ⟨fun j e he => by obtain ⟨b, o, ea, ec, h1, h2, h3, h4⟩ := h.at_ j e he; exact ⟨b, o, ea, ec, h1, cell_bel B h2, h3.bel B, h4⟩⟩
/-- How many transactions. -/
def totR (ss : List (List RwT)) : Nat := (ss.map List.length).sum
structure Few (ss : List (List RwT)) : Prop where
  n : ss.length ≤ 8
  t : totR ss ≤ 12
  e : ∀ l ∈ ss, ∀ t ∈ l, t.evs.length ≤ 64
theorem totR_mem : ∀ {ss : List (List RwT)} {l : List RwT}, l ∈ ss → l.length ≤ totR ss
  | a :: r, l, h => by
    simp only [totR, List.map_cons, List.sum_cons]
    rcases List.mem_cons.mp h with rfl | h
    · omega
    · have := totR_mem h
      unfold totR at this
      omega
theorem hsR_at {ss : List (List RwT)} {s : Nat} {l : List Tx} (h : (hsR ss)[s]? = some l) : ∃ r, ss[s]? = some r ∧ l = r.map txR := by
  simp only [hsR, List.getElem?_map, Option.map_eq_some_iff] at h
  obtain ⟨r, h1, h2⟩ := h
  exact ⟨r, h1, h2.symm⟩
theorem At.raw {ss : List (List RwT)} {s k e : Nat} {x : Ev} (h : At (hsR ss) s k e x) : ∃ r, x = evR r := by
  obtain ⟨l, t, h1, h2, h3⟩ := h
  obtain ⟨r, _, rfl⟩ := hsR_at h1
  rw [List.getElem?_map, Option.map_eq_some_iff] at h2
  obtain ⟨t', _, rfl⟩ := h2
  simp only [txR, List.getElem?_map, Option.map_eq_some_iff] at h3
  obtain ⟨v, _, rfl⟩ := h3
  exact ⟨v, rfl⟩
theorem Few.bnd {ss : List (List RwT)} (h : Few ss) : Bnd (hsR ss) := by
  refine ⟨by simp [hsR]; have := h.n; omega, fun l hl => ?_, fun l hl t ht => ?_, fun s k e x hx => ?_⟩
  · obtain ⟨r, hr, rfl⟩ := List.mem_map.mp hl
    have := totR_mem hr
    have := h.t
    simp; omega
  · obtain ⟨r, hr, rfl⟩ := List.mem_map.mp hl
    obtain ⟨t', ht', rfl⟩ := List.mem_map.mp ht
    have := h.e r hr t' ht'
    simp [txR]; omega
  · obtain ⟨r, rfl⟩ := hx.raw
    have : kdOf r.k < 256 := by unfold kdOf; split <;> omega
    simp only [evR]
    omega
theorem Few.ver {ss : List (List RwT)} : ∀ s k e x, At (hsR ss) s k e x → x.v < 8 := fun s k e x hx => by
  obtain ⟨r, rfl⟩ := hx.raw
  simp only [evR]; omega
theorem Few.rks {ss : List (List RwT)} (h : Few ss) : (rksAll 0 (hsR ss)).length ≤ 12 := by
  have h1 := rksAll_len (hsR ss) 0
  have h2 : ((hsR ss).map List.length).sum = totR ss := by simp [hsR, totR, Function.comp_def]
  have := h.t
  omega
theorem Few.evs {ss : List (List RwT)} (h : Few ss) : evAll (hsR ss) ≤ 10000 := by
  have h1 := evAll_le (hsR ss) (fun l hl t ht => by
    obtain ⟨r, hr, rfl⟩ := List.mem_map.mp hl
    obtain ⟨t', ht', rfl⟩ := List.mem_map.mp ht
    have := h.e r hr t' ht'
    simp [txR]; omega)
  have h2 : ((hsR ss).map List.length).sum = totR ss := by simp [hsR, totR, Function.comp_def]
  have := h.t
  omega
/-- A session in memory: its first transactions. -/
structure SB (w : World) (bT m : Nat) (EB EC : Nat → Nat) (l : List Tx) : Prop where
  row : ∃ xs, Sl w 39 2 (some ⟨bT, 0, none⟩) m m [bT] xs
  com : ∀ (k : Nat) (t : Tx), l[k]? = some t → w.cell? ⟨bT, k * 2 + 1, none⟩ = some (.bool t.com)
  evs : ∀ (k : Nat) (t : Tx), l[k]? = some t → ∃ o, w.cell? ⟨bT, k * 2, none⟩ = some (.slice o t.evs.length (EC k)) ∧ (t.evs ≠ [] → o = some ⟨EB k, 0, none⟩)
  ev : ∀ (k : Nat) (t : Tx) (e : Nat) (v : Ev) (j : Nat) (u : Value), l[k]? = some t → t.evs[e]? = some v → v.cells[j]? = some u → w.cell? ⟨EB k, e * 4 + j, none⟩ = some u
  ap : ∀ (k : Nat) (t : Tx), l[k]? = some t → t.evs ≠ [] → EB k ≠ bT
theorem SB.keep {w w' : World} {bT m : Nat} {EB EC : Nat → Nat} {l : List Tx} (h : SB w bT m EB EC l) {S : List Nat} (hu : Upd S w w') (h1 : bT ∉ S) (h2 : ∀ (k : Nat) (t : Tx), l[k]? = some t → t.evs ≠ [] → EB k ∉ S) : SB w' bT m EB EC l := by
  obtain ⟨xs, hx⟩ := h.row
  refine ⟨⟨xs, hx.keep hu (by simpa using h1)⟩, fun k t ht => hu.cell (h.com k t ht) h1, fun k t ht => ?_, fun k t e v j u ht he hj => hu.cell (h.ev k t e v j u ht he hj) (h2 k t ht (fun hn => by rw [hn] at he; simp at he)), h.ap⟩
  obtain ⟨o, h3, h4⟩ := h.evs k t ht
  exact ⟨o, hu.cell h3 h1, h4⟩
theorem SB.made (w : World) (m : Nat) (hm : m < 1000) (EB EC : Nat → Nat) : SB (w.alloc (.cells (zeros (.agg #[.slice none 0 0, .bool false]) (m * 2)).toArray 39)) w.heap.size m EB EC [] := by
  have q := Sl.made w 39 (.agg #[.slice none 0 0, .bool false]) 2 m m (Nat.le_refl _) (by omega)
  exact ⟨⟨_, q⟩, fun k t h => by simp at h, fun k t h => by simp at h, fun k t e v j u h => by simp at h, fun k t h => by simp at h⟩
def setF (f : Nat → Nat) (k v : Nat) : Nat → Nat := fun x => if x = k then v else f x
/-- One transaction more. -/
theorem SB.put {w : World} {bT m : Nat} {EB EC : Nat → Nat} {l : List Tx} (h : SB w bT m EB EC l) (t : Tx) (o : Option Addr) (bE cE : Nat) (hE : ∀ (e : Nat) (v : Ev) (j : Nat) (u : Value), t.evs[e]? = some v → v.cells[j]? = some u → w.cell? ⟨bE, e * 4 + j, none⟩ = some u) (ho : t.evs ≠ [] → o = some ⟨bE, 0, none⟩ ∧ bE ≠ bT) (hl : l.length < m) :
    SB ((w.setCell ⟨bT, l.length * 2, none⟩ (.slice o t.evs.length cE)).setCell ⟨bT, l.length * 2 + 1, none⟩ (.bool t.com)) bT m (setF EB l.length bE) (setF EC l.length cE) (l ++ [t]) := by
  obtain ⟨xs, hx⟩ := h.row
  have hxl := hx.len
  have s := (hx.store (l.length * 2) (.slice o t.evs.length cE)).store (l.length * 2 + 1) (.bool t.com)
  obtain ⟨g, e1, _, _, e3, _⟩ := s.has (by omega)
  injection e1 with e1
  injection e1 with e1
  subst e1
  obtain ⟨g, e1, _, _, e4, _⟩ := hx.has (by omega)
  injection e1 with e1
  injection e1 with e1
  subst e1
  have hu : Upd [bT] w ((w.setCell ⟨bT, l.length * 2, none⟩ (.slice o t.evs.length cE)).setCell ⟨bT, l.length * 2 + 1, none⟩ (.bool t.com)) := (Upd.store _ _ _ _).trans (Upd.store _ _ _ _) (by simp)
  have old : ∀ j, j < m * 2 → j ≠ l.length * 2 → j ≠ l.length * 2 + 1 → ∀ v, w.cell? ⟨bT, j, none⟩ = some v → ((w.setCell ⟨bT, l.length * 2, none⟩ (.slice o t.evs.length cE)).setCell ⟨bT, l.length * 2 + 1, none⟩ (.bool t.com)).cell? ⟨bT, j, none⟩ = some v := fun j hj h1 h2 v hv => by
    rw [e3 j hj, List.getElem?_set_ne (by omega), List.getElem?_set_ne (by omega), ← e4 j hj]; exact hv
  have new0 : ((w.setCell ⟨bT, l.length * 2, none⟩ (.slice o t.evs.length cE)).setCell ⟨bT, l.length * 2 + 1, none⟩ (.bool t.com)).cell? ⟨bT, l.length * 2, none⟩ = some (.slice o t.evs.length cE) := by
    rw [e3 _ (by omega), List.getElem?_set_ne (by omega), List.getElem?_set_self (by omega)]
  have new1 : ((w.setCell ⟨bT, l.length * 2, none⟩ (.slice o t.evs.length cE)).setCell ⟨bT, l.length * 2 + 1, none⟩ (.bool t.com)).cell? ⟨bT, l.length * 2 + 1, none⟩ = some (.bool t.com) := by
    rw [e3 _ (by omega), List.getElem?_set_self (by simp; omega)]
  have sp : ∀ {k : Nat} {x : Tx}, (l ++ [t])[k]? = some x → (k < l.length ∧ l[k]? = some x) ∨ (k = l.length ∧ x = t) := fun {k x} hk => by
    rcases snoc_at hk with h1 | ⟨h1, h2⟩
    · exact .inl ⟨(List.getElem?_eq_some_iff.mp h1).1, h1⟩
    · exact .inr ⟨h1, h2⟩
  refine ⟨⟨_, s⟩, fun k x hk => ?_, fun k x hk => ?_, fun k x e v j u hk he hj => ?_, fun k x hk hn => ?_⟩
  · rcases sp hk with ⟨h1, h2⟩ | ⟨h1, h2⟩
    · exact old _ (by omega) (by omega) (by omega) _ (h.com k x h2)
    · subst h1 h2; exact new1
  · rcases sp hk with ⟨h1, h2⟩ | ⟨h1, h2⟩
    · obtain ⟨o', h3, h4⟩ := h.evs k x h2
      refine ⟨o', ?_, fun hn => ?_⟩
      · simp only [setF, if_neg (show ¬ k = l.length by omega)]
        exact old _ (by omega) (by omega) (by omega) _ h3
      · simp only [setF, if_neg (show ¬ k = l.length by omega)]
        exact h4 hn
    · subst h1 h2
      refine ⟨o, ?_, fun hn => ?_⟩
      · simp only [setF, if_pos]; exact new0
      · simp only [setF, if_pos]; exact (ho hn).1
  · rcases sp hk with ⟨h1, h2⟩ | ⟨h1, h2⟩
    · simp only [setF, if_neg (show ¬ k = l.length by omega)]
      exact hu.cell (h.ev k x e v j u h2 he hj) (by simpa using h.ap k x h2 (fun hn => by rw [hn] at he; simp at he))
    · subst h1 h2
      simp only [setF, if_pos]
      exact hu.cell (hE e v j u he hj) (by simpa using (ho (fun hn => by rw [hn] at he; simp at he)).2)
  · rcases sp hk with ⟨h1, h2⟩ | ⟨h1, h2⟩
    · simp only [setF, if_neg (show ¬ k = l.length by omega)]
      exact h.ap k x h2 hn
    · subst h1 h2
      simp only [setF, if_pos]
      exact (ho hn).2
/-- The history in memory: its first sessions. -/
structure RB (w0 w : World) (bH bS n : Nat) (R : HR) (hs : List (List Tx)) : Prop where
  bel : Below w0.heap.size w0 w
  h : Blk w bH 29 #[.slice (some ⟨bS, 0, none⟩) n n]
  top : ∃ xs, Sl w 30 1 (some ⟨bS, 0, none⟩) n n [bS] xs ∧ ∀ s, hs.length ≤ s → s < n → xs[s]? = some (.slice none 0 0)
  his : HistE w R hs
  hR : R.top = bS
  nS : ∀ (s : Nat) (l : List Tx), hs[s]? = some l → l ≠ [] → R.ses s ≠ bS
  nE : ∀ (s k : Nat) (l : List Tx) (t : Tx), hs[s]? = some l → l[k]? = some t → t.evs ≠ [] → R.evs s k ≠ bS
  geH : w0.heap.size ≤ bH
  geS : w0.heap.size ≤ bS
section
variable {w0 w w' : World} {bH bS n : Nat} {R : HR} {hs : List (List Tx)}
theorem RB.new (h : RB w0 w bH bS n R hs) (hu : Upd [] w w') : RB w0 w' bH bS n R hs := by
  obtain ⟨xs, h1, h2⟩ := h.top
  exact ⟨h.bel.trans (hu.below h.bel.size (by simp)), h.h.keep hu (by simp), ⟨xs, h1.keep hu (by simp), h2⟩, h.his.below (hu.below (Nat.le_refl _) (by simp)), h.hR, h.nS, h.nE, h.geH, h.geS⟩
theorem At0 {hs : List (List Tx)} {l : List Tx} {s : Nat} {x : List Tx} (h : (hs ++ [l])[s]? = some x) : (s < hs.length ∧ hs[s]? = some x) ∨ (s = hs.length ∧ x = l) := by
  rcases snoc_at h with h1 | ⟨h1, h2⟩
  · exact .inl ⟨(List.getElem?_eq_some_iff.mp h1).1, h1⟩
  · exact .inr ⟨h1, h2⟩
/-- A session that is left out. -/
theorem RB.skip (h : RB w0 w bH bS n R hs) (hn : hs.length < n) : RB w0 w bH bS n ⟨R.top, R.ses, setF R.sc hs.length 0, R.evs, R.ec⟩ (hs ++ [[]]) := by
  obtain ⟨xs, h1, h2⟩ := h.top
  refine ⟨h.bel, h.h, ⟨xs, h1, fun s hs1 hs2 => h2 s (by simp at hs1; omega) hs2⟩, ⟨⟨fun s l hl => ?_, fun s l k t hl ht => ?_, fun s l k t hl ht => ?_⟩, fun s l k t e v j u hl ht he hj => ?_⟩, h.hR, fun s l hl hne => ?_, fun s k l t hl ht hne => ?_, h.geH, h.geS⟩
  · rcases At0 hl with ⟨a, b⟩ | ⟨a, b⟩
    · simp only [setF, if_neg (show ¬ s = hs.length by omega)]
      exact h.his.base.ses s l b
    · subst a b
      obtain ⟨g, e1, _, e3⟩ := h1.get (h2 hs.length (Nat.le_refl _) hn)
      injection e1 with e1
      injection e1 with e1
      subst e1
      refine ⟨none, ?_, fun hn => absurd rfl hn⟩
      simp only [setF, if_pos, h.hR]
      exact e3
  · rcases At0 hl with ⟨a, b⟩ | ⟨a, b⟩
    · exact h.his.base.com s l k t b ht
    · subst b; simp at ht
  · rcases At0 hl with ⟨a, b⟩ | ⟨a, b⟩
    · exact h.his.base.evs s l k t b ht
    · subst b; simp at ht
  · rcases At0 hl with ⟨a, b⟩ | ⟨a, b⟩
    · exact h.his.ev s l k t e v j u b ht he hj
    · subst b; simp at ht
  · rcases At0 hl with ⟨a, b⟩ | ⟨a, b⟩
    · exact h.nS s l b hne
    · exact absurd b hne
  · rcases At0 hl with ⟨a, b⟩ | ⟨a, b⟩
    · exact h.nE s k l t b ht hne
    · subst b; simp at ht
/-- A session more. -/
theorem RB.put (h : RB w0 w bH bS n R hs) {w1 : World} (hu : Upd [] w w1) {bT : Nat} {EB EC : Nat → Nat} {l : List Tx} (S : SB w1 bT l.length EB EC l) (hn : hs.length < n) (hT : w.heap.size ≤ bT) (hE : ∀ (k : Nat) (t : Tx), l[k]? = some t → t.evs ≠ [] → w.heap.size ≤ EB k) :
    RB w0 (w1.setCell ⟨bS, hs.length, none⟩ (.slice (some ⟨bT, 0, none⟩) l.length l.length)) bH bS n ⟨R.top, setF R.ses hs.length bT, setF R.sc hs.length l.length, fun s k => if s = hs.length then EB k else R.evs s k, fun s k => if s = hs.length then EC k else R.ec s k⟩ (hs ++ [l]) := by
  have h' := h.new hu
  obtain ⟨xs, h1, h2⟩ := h'.top
  have hx := h1.len
  have hlS : bS < w.heap.size := by obtain ⟨xs, h1, _⟩ := h.top; exact h1.lt bS (by simp)
  have st := Upd.store w1 bS hs.length (.slice (some ⟨bT, 0, none⟩) l.length l.length)
  have s := h1.store hs.length (.slice (some ⟨bT, 0, none⟩) l.length l.length)
  obtain ⟨cS, hcS⟩ := h1.ty bS (by simp)
  have hHS : bH ≠ bS := fun e => by
    have hb := h'.h
    rw [e] at hb
    exact absurd (hb.ty hcS) (by decide)
  have nT : bT ≠ bS := by omega
  refine ⟨h'.bel.trans (st.below h'.bel.size (by simpa using h.geS)), h'.h.keep st (by simpa using hHS), ⟨_, s, fun q hq1 hq2 => ?_⟩, ⟨⟨fun q x hl => ?_, fun q x k t hl ht => ?_, fun q x k t hl ht => ?_⟩, fun q x k t e v j u hl ht he hj => ?_⟩, h.hR, fun q x hl hne => ?_, fun q k x t hl ht hne => ?_, h.geH, h.geS⟩
  · simp at hq1
    rw [List.getElem?_set_ne (by omega)]
    exact h2 q (by omega) hq2
  · obtain ⟨g, e1, _, _, e3, _⟩ := s.has (by omega)
    injection e1 with e1
    injection e1 with e1
    subst e1
    obtain ⟨g, e1, _, _, e4, _⟩ := h1.has (by omega)
    injection e1 with e1
    injection e1 with e1
    subst e1
    rcases At0 hl with ⟨a, b⟩ | ⟨a, b⟩
    · simp only [setF, if_neg (show ¬ q = hs.length by omega)]
      obtain ⟨o, o1, o2⟩ := h'.his.base.ses q x b
      refine ⟨o, ?_, o2⟩
      rw [h.hR] at o1 ⊢
      rw [e3 q (by omega), List.getElem?_set_ne (by omega), ← e4 q (by omega)]
      exact o1
    · subst a b
      refine ⟨some ⟨bT, 0, none⟩, ?_, fun _ => ?_⟩
      · simp only [setF, if_pos, h.hR]
        rw [e3 _ (by omega), List.getElem?_set_self (by omega)]
      · simp only [setF, if_pos]
  · rcases At0 hl with ⟨a, b⟩ | ⟨a, b⟩
    · simp only [setF, if_neg (show ¬ q = hs.length by omega)]
      exact st.cell (h'.his.base.com q x k t b ht) (by simpa using h.nS q x b (fun e => by rw [e] at ht; simp at ht))
    · subst a b
      simp only [setF, if_pos]
      exact st.cell (S.com k t ht) (by simpa using nT)
  · rcases At0 hl with ⟨a, b⟩ | ⟨a, b⟩
    · simp only [setF, if_neg (show ¬ q = hs.length by omega)]
      obtain ⟨o, o1, o2⟩ := h'.his.base.evs q x k t b ht
      exact ⟨o, st.cell o1 (by simpa using h.nS q x b (fun e => by rw [e] at ht; simp at ht)), o2⟩
    · subst a b
      simp only [setF, if_pos]
      obtain ⟨o, o1, o2⟩ := S.evs k t ht
      exact ⟨o, st.cell o1 (by simpa using nT), o2⟩
  · have hne : t.evs ≠ [] := fun e => by rw [e] at he; simp at he
    rcases At0 hl with ⟨a, b⟩ | ⟨a, b⟩
    · simp only [if_neg (show ¬ q = hs.length by omega)]
      exact st.cell (h'.his.ev q x k t e v j u b ht he hj) (by simpa using h.nE q k x t b ht hne)
    · subst a b
      simp only [if_pos]
      exact st.cell (S.ev k t e v j u ht he hj) (by have := hE k t ht hne; simp; omega)
  · rcases At0 hl with ⟨a, b⟩ | ⟨a, b⟩
    · simp only [setF, if_neg (show ¬ q = hs.length by omega)]
      exact h.nS q x b hne
    · subst a b
      simp only [setF, if_pos]
      exact nT
  · rcases At0 hl with ⟨a, b⟩ | ⟨a, b⟩
    · simp only [if_neg (show ¬ q = hs.length by omega)]
      exact h.nE q k x t b ht hne
    · subst a b
      simp only [if_pos]
      have := hE k t ht hne
      omega
end
theorem RB.start {w0 w : World} (B : Below w0.heap.size w0 w) (n : Nat) (hn : n < 1000) : RB w0 (((w.alloc (.cells #[.slice none 0 0] 29)).alloc (.cells (zeros (.slice none 0 0) (n * 1)).toArray 30)).setCell ⟨w.heap.size, 0, none⟩ (.slice (some ⟨w.heap.size + 1, 0, none⟩) n n)) w.heap.size (w.heap.size + 1) n ⟨w.heap.size + 1, fun _ => 0, fun _ => 0, fun _ _ => 0, fun _ _ => 0⟩ [] := by
  obtain ⟨x1, e1⟩ : ∃ z : World, z = w.alloc (.cells #[.slice none 0 0] 29) := ⟨_, rfl⟩
  obtain ⟨x2, e2⟩ : ∃ z : World, z = x1.alloc (.cells (zeros (.slice none 0 0) (n * 1)).toArray 30) := ⟨_, rfl⟩
  have z1 : x1.heap.size = w.heap.size + 1 := by rw [e1]; simp
  have u1 : Upd [] w x1 := by rw [e1]; exact Upd.alloc _ _ _
  have u2 : Upd [] x1 x2 := by rw [e2]; exact Upd.alloc _ _ _
  have b1 : Blk x1 w.heap.size 29 #[.slice none 0 0] := by rw [e1]; exact Blk.new _ _ _
  have s2 := Sl.made x1 30 (.slice none 0 0) 1 n n (Nat.le_refl _) (by omega)
  rw [← e2, z1] at s2
  rw [← e1, ← e2]
  have hB := B.size
  have st := Upd.store x2 w.heap.size 0 (.slice (some ⟨w.heap.size + 1, 0, none⟩) n n)
  have b3 := (b1.keep u2 (by simp)).store 0 (.slice (some ⟨w.heap.size + 1, 0, none⟩) n n)
  refine ⟨B.trans (((u1.trans u2 (by simp)).trans st (T := [w.heap.size]) (by simp)).below hB (by simp)), by simpa using b3, ⟨_, s2.keep st (by simp), fun s _ hs => ?_⟩, ⟨⟨fun s l h => by simp at h, fun s l k t h => by simp at h, fun s l k t h => by simp at h⟩, fun s l k t e v j u h => by simp at h⟩, rfl, fun s l h => by simp at h, fun s k l t h => by simp at h, hB, by show w0.heap.size ≤ w.heap.size + 1; omega⟩
  rw [Nat.mul_one, zeros_one _ rfl, List.getElem?_replicate, if_pos hs]
theorem SB.slot {w : World} {bT m : Nat} {EB EC : Nat → Nat} {l : List Tx} (h : SB w bT m EB EC l) {j : Nat} (hj : j < m * 2) : (∃ v, w.cell? ⟨bT, j, none⟩ = some v) ∧ w.frozen? ⟨bT, j, none⟩ = false := by
  obtain ⟨xs, hx⟩ := h.row
  obtain ⟨g, e1, _, _, e3, e4⟩ := hx.has (by omega)
  injection e1 with e1
  injection e1 with e1
  subst e1
  obtain ⟨v, hv⟩ := has_at xs (k := j) (by have := hx.len; omega)
  exact ⟨⟨v, (e3 j hj).trans hv⟩, e4 j⟩
theorem RB.slot {w0 w : World} {bH bS n : Nat} {R : HR} {hs : List (List Tx)} (h : RB w0 w bH bS n R hs) {j : Nat} (hj : j < n) : (∃ v, w.cell? ⟨bS, j, none⟩ = some v) ∧ w.frozen? ⟨bS, j, none⟩ = false := by
  obtain ⟨xs, hx, _⟩ := h.top
  obtain ⟨g, e1, _, _, e3, e4⟩ := hx.has (by omega)
  injection e1 with e1
  injection e1 with e1
  subst e1
  obtain ⟨v, hv⟩ := has_at xs (k := j) (by have := hx.len; omega)
  exact ⟨⟨v, (e3 j (by omega)).trans hv⟩, e4 j⟩
theorem hsR_snoc {ss : List (List RwT)} {i : Nat} {l : List RwT} (h : ss[i]? = some l) : hsR (ss.take (i + 1)) = hsR (ss.take i) ++ [l.map txR] := by
  unfold hsR
  rw [take_snoc h, List.map_append]; rfl
theorem hsR_len (ss : List (List RwT)) : (hsR ss).length = ss.length := by simp [hsR]
theorem txs_snoc {l : List RwT} {i : Nat} {t : RwT} (h : l[i]? = some t) : (l.take (i + 1)).map txR = (l.take i).map txR ++ [txR t] := by
  rw [take_snoc h, List.map_append]; rfl
theorem evs_snoc {l : List RV} {i : Nat} {t : RV} (h : l[i]? = some t) : (l.take (i + 1)).map evR = (l.take i).map evR ++ [evR t] := by
  rw [take_snoc h, List.map_append]; rfl
end Go.Proofs.YbulkctquGreatFmt
