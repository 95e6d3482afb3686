/-
  newSessionPolygraph's last part: bounds, rows of integers, what it leaves, pieces of its text.
-/
import Derived.Test.YbulkctquGreatFmtNspL
import Derived.Test.YbulkctquGreatFmtPlC
import Derived.Test.YbulkctquGreatFmtFlg
import Derived.Test.YbulkctquGreatFmtCompA
namespace Go.Ord
/-- The part of a text that begins at region n. -/
def isReg (n : Nat) : Code → Bool
  | .region k _ _ => k == n
  | _ => false
def fromReg (n : Nat) : Code → Option Code
  | .seq x y => if isReg n x then some (.seq x y) else match fromReg n x with
    | some c => some c
    | none => fromReg n y
  | .region k o b => if k == n then some (.region k o b) else none
  | .loop c => fromReg n c
  | .block _ c => fromReg n c
  | .scope c => fromReg n c
  | .cond _ a b => match fromReg n a with
    | some c => some c
    | none => fromReg n b
  | _ => none
/-- Block n. -/
def fromBlk (n : Nat) : Code → Option Code
  | .seq x y => match fromBlk n x with
    | some c => some c
    | none => fromBlk n y
  | .loop c => fromBlk n c
  | .block k c => if k == n then some (.block k c) else fromBlk n c
  | .scope c => fromBlk n c
  | .cond _ a b => match fromBlk n a with
    | some c => some c
    | none => fromBlk n b
  | _ => none
end Go.Ord
namespace Go.Proofs.YbulkctquGreatFmt
open Go.ChangeShapes Go.WideShapes Go.ChangeAt Go.RowKit Go.Ord
set_option linter.unusedVariables false

/-- Parts of the text. -/
noncomputable def c11 : Code := ((Ybaz.f14.body.bind (fromBlk 11)).getD .skip)
noncomputable def c13 : Code := ((Ybaz.f14.body.bind (fromBlk 13)).getD .skip)
noncomputable def c57 : Code := ((Ybaz.f14.body.bind (fromReg 57)).getD .skip)
noncomputable def c66 : Code := ((Ybaz.f14.body.bind (fromReg 66)).getD .skip)
noncomputable def c61 : Code := ((Ybaz.f14.body.bind (fromReg 61)).getD .skip)
noncomputable def c22 : Code := ((Ybaz.f14.body.bind (fromBlk 22)).getD .skip)
noncomputable def c20 : Code := ((Ybaz.f14.body.bind (fromBlk 20)).getD .skip)
noncomputable def c18 : Code := ((Ybaz.f14.body.bind (fromBlk 18)).getD .skip)
noncomputable def c117 : Code := ((Ybaz.f14.body.bind (fromReg 117)).getD .skip)
noncomputable def c88 : Code := ((Ybaz.f14.body.bind (fromReg 88)).getD .skip)
noncomputable def c82 : Code := ((Ybaz.f14.body.bind (fromReg 82)).getD .skip)
/-- A row of integers. -/
def IntsAt (b n : Nat) (M : List Int) (w : World) : Prop := Sl w 3 1 (some ⟨b, 0, none⟩) n n [b] (M.map iI)
theorem IntsAt.keeps (b n : Nat) (M : List Int) : Keeps [b] (IntsAt b n M) := fun w w' S h hu hS => Sl.keep h hu hS
theorem IntsAt.made (w : World) (n : Nat) (hn : n < 1000000) : IntsAt w.heap.size n (List.replicate n 0) (w.alloc (.cells (zeros (.int .i64 0) n).toArray 3)) := by
  have q := Sl.made w 3 (.int .i64 0) 1 n n (Nat.le_refl _) hn
  rw [Nat.mul_one, zeros_one _ rfl] at q
  unfold IntsAt
  rw [List.map_replicate, zeros_one _ rfl]
  exact q
theorem IntsAt.get {b n : Nat} {M : List Int} {w : World} (h : IntsAt b n M w) {i : Nat} {v : Int} (hi : M[i]? = some v) : w.cell? ⟨b, i, none⟩ = some (.int .i64 v) ∧ w.frozen? ⟨b, i, none⟩ = false := by
  have hl := (List.getElem?_eq_some_iff.mp hi).1
  have h0 : Sl w 3 1 (some ⟨b, 0, none⟩) n n [b] (M.map iI) := h
  have h1 := h0.len
  simp at h1
  obtain ⟨g, e, _, _, hc, hz⟩ := h0.has (by omega)
  injection e with e
  injection e with e
  subst e
  exact ⟨(hc i (by omega)).trans (by simp [hi, iI]), hz i⟩
theorem IntsAt.set {b n : Nat} {M : List Int} {w : World} (h : IntsAt b n M w) (i : Nat) (v : Int) : IntsAt b n (M.set i v) (w.setCell ⟨b, i, none⟩ (.int .i64 v)) := by
  have h0 : Sl w 3 1 (some ⟨b, 0, none⟩) n n [b] (M.map iI) := h
  have s := h0.store i (iI v)
  rw [← List.map_set] at s
  exact s
/-- A graph that grew, junctions too. -/
theorem Poly.grew {d bN bF m : Nat} {g : GG} {G : List (List Nat)} {J : List Bool} {sg : SG} {ss : List Sr} {og : OG} {os : List Ob} {w : World} (h : Poly d bN bF m g G J sg ss og os w) {w' : World} {g' : GG} {G' : List (List Nat)} {J' : List Bool} (h1 : Gr w' d 2 g' G' J') (h2 : Grew d w w' g g') : Poly d bN bF m g' G' J' sg ss og os w' ∧ Upd (polyFp d g sg og) w w' ∧ ∀ k ∈ polyFp d g' sg og, (k ∈ polyFp d g sg og ∨ w.heap.size ≤ k) ∧ k < w'.heap.size := by
  have nd := h.nd
  have nd' := nd
  simp only [polyFp, List.nodup_cons, List.nodup_append, List.mem_append, not_or] at nd'
  have s1 := h.sr.keep h2.upd (fun k hk hm => by
    simp only [List.mem_cons] at hm
    rcases hm with hm | hm
    · subst hm; exact nd'.1.2.1 hk
    · exact nd'.2.2.2 k hm k (.inl hk) rfl)
  have o1 := h.ob.keep h2.upd (fun k hk hm => by
    simp only [List.mem_cons] at hm
    rcases hm with hm | hm
    · subst hm; exact nd'.1.2.2 hk
    · exact nd'.2.2.2 k hm k (.inr hk) rfl)
  have p : Poly d bN bF m g' G' J' sg ss og os w' := ⟨h1, s1, o1, h2.kc.trans h.kc, nodup_new nd h.lt (List.nodup_cons.mp h1.nd).2 h.sr.nd h.ob.nd h2.foot (fun k hk => hk) (fun k hk => hk)⟩
  refine ⟨p, h2.upd.mono (fun k hk => .inl (by simp only [List.mem_cons] at hk; simp only [polyFp, List.mem_cons, List.mem_append]; rcases hk with hk | hk; exact .inl hk; exact .inr (.inl hk))), fun k hk => ⟨?_, p.lt k hk⟩⟩
  simp only [polyFp, List.mem_cons, List.mem_append] at hk ⊢
  rcases hk with hk | hk | hk
  · exact .inl (.inl hk)
  · rcases h2.foot k hk with z | z
    · exact .inl (.inr (.inl z))
    · exact .inr z
  · exact .inl (.inr (.inr hk))
theorem Poly.apartO {d bN bF m : Nat} {g : GG} {G : List (List Nat)} {J : List Bool} {sg : SG} {ss : List Sr} {og : OG} {os : List Ob} {w : World} (h : Poly d bN bF m g G J sg ss og os w) : ∀ k ∈ og.foot, k ∉ d :: g.foot := by
  have nd' := h.nd
  simp only [polyFp, List.nodup_cons, List.nodup_append, List.mem_append, not_or] at nd'
  intro k hk hm
  simp only [List.mem_cons] at hm
  rcases hm with hm | hm
  · subst hm; exact nd'.1.2.2 hk
  · exact nd'.2.2.2 k hm k (.inr hk) rfl
theorem Poly.apartS {d bN bF m : Nat} {g : GG} {G : List (List Nat)} {J : List Bool} {sg : SG} {ss : List Sr} {og : OG} {os : List Ob} {w : World} (h : Poly d bN bF m g G J sg ss og os w) : ∀ k ∈ sg.foot, k ∉ d :: g.foot := by
  have nd' := h.nd
  simp only [polyFp, List.nodup_cons, List.nodup_append, List.mem_append, not_or] at nd'
  intro k hk hm
  simp only [List.mem_cons] at hm
  rcases hm with hm | hm
  · subst hm; exact nd'.1.2.1 hk
  · exact nd'.2.2.2 k hm k (.inl hk) rfl
section
variable {hs : List (List Tx)} {F : Nat → Option Wr} {A : List Rk} {zs : List Nat} {NM : Nat × Nat → Option Nat} {om sm : Nat → Option Nat} {vars vers : List Nat} {os : List Ob} {ss : List Sr} {G : List (List Nat)} {c : Nat}
theorem EI.boundO {v e : Nat} (E : EI hs F A zs NM v e om sm vars vers os ss G c) (hp : zs.Perm (List.range A.length)) : ∀ o ∈ os, (∀ t ∈ o.ini, t < A.length) ∧ (∀ t ∈ o.wr, t < A.length) ∧ o.ini.length ≤ A.length ∧ o.wr.length ≤ A.length ∧ o.wr.Nodup := by
  intro o ho
  obtain ⟨x, hx⟩ := List.getElem?_of_mem ho
  obtain ⟨y, hy⟩ := has_at vars (k := x) (by rw [E.lenO]; exact (List.getElem?_eq_some_iff.mp hx).1)
  obtain ⟨a1, a2, a3, a4, a5⟩ := E.obI x o y hx hy
  have b1 : ∀ t ∈ o.ini, t < A.length := fun t ht => by obtain ⟨i, z, _, q, _⟩ := (a3 t).mp ht; exact evN_lt hp q
  have b2 : ∀ t ∈ o.wr, t < A.length := fun t ht => by obtain ⟨i, z, _, q, _⟩ := (a1 t).mp ht; exact evN_lt hp q
  exact ⟨b1, b2, nodup_len _ _ a4 b1, nodup_len _ _ a2 b2, a2⟩
theorem EI.boundS {v e : Nat} (E : EI hs F A zs NM v e om sm vars vers os ss G c) (hp : zs.Perm (List.range A.length)) (N : NMI A zs A.length NM) : ∀ s ∈ ss, s.ob < os.length ∧ s.wr < A.length ∧ (∀ t ∈ s.rd, t < A.length) ∧ s.rd.length ≤ A.length := by
  intro s hs'
  obtain ⟨k, hk⟩ := List.getElem?_of_mem hs'
  obtain ⟨r, hr⟩ := has_at vers (k := k) (by rw [E.lenS]; exact (List.getElem?_eq_some_iff.mp hk).1)
  obtain ⟨⟨q, x, a1, a2, a3, a4, a5, a6, a7⟩, b1, b2⟩ := E.srI k s r hk hr
  have c1 : ∀ t ∈ s.rd, t < A.length := fun t ht => by obtain ⟨⟨i, z, _, q, _⟩, _⟩ := (b1 t).mp ht; exact evN_lt hp q
  refine ⟨by rw [← E.lenO]; exact (List.getElem?_eq_some_iff.mp a6).1, (N.fwd _ _ a2).1, c1, nodup_len _ _ ?_ c1⟩
  rw [List.nodup_iff_pairwise_ne]; exact b2.imp (fun h => by omega)
end
theorem initG_len : ∀ (os : List Ob) (G : List (List Nat)), (∀ o ∈ os, o.ini.length ≤ 12 ∧ o.wr.length ≤ 12) → (initG G os).length ≤ G.length + 2 * os.length := by
  intro os
  induction os with
  | nil => intro G _; simp [initG]
  | cons o os ih =>
    intro G ho
    have h1 := ho o (by simp)
    have h2 := (othersG_size12 G o.ini o.wr h1.1 (by omega)).1
    have h3 := ih (othersG G o.ini o.wr) (fun o' ho' => ho o' (by simp [ho']))
    simp only [initG, List.foldl_cons, List.length_cons] at h3 ⊢
    omega
theorem overG_len : ∀ (ss : List Sr) (rs : List (List Nat)) (G : List (List Nat)), (∀ s ∈ ss, s.rd.length ≤ 12) → (∀ r ∈ rs, r.length ≤ 13) → (overG G ss rs).length ≤ G.length + 2 * ss.length := by
  intro ss
  induction ss with
  | nil => intro rs G _ _; rw [overG_nil]; simp
  | cons s ss ih =>
    intro rs G hs hr
    cases rs with
    | nil => simp only [overG]; omega
    | cons r rs =>
      simp only [overG, List.length_cons]
      have h3 := ih rs (if r = [] then G else othersG G s.rd r) (fun s' h' => hs s' (by simp [h'])) (fun r' h' => hr r' (by simp [h']))
      have h2 := (othersG_size12 G s.rd r (hs s (by simp)) (hr r (by simp))).1
      by_cases e : r = []
      · rw [if_pos e] at h3 ⊢; omega
      · rw [if_neg e] at h3 ⊢; omega
theorem initG_ge : ∀ (os : List Ob) (G : List (List Nat)), G.length ≤ (initG G os).length := by
  intro os
  induction os with
  | nil => intro G; exact Nat.le_refl _
  | cons o os ih =>
    intro G
    have h1 := joinG_len G (onlyOf o.ini o.wr) o.wr
    have h2 := joinG_len (joinG G (onlyOf o.ini o.wr) o.wr) (bothOf o.ini o.wr) (onlyOf o.wr o.ini)
    have h3 : (othersG G o.ini o.wr).length = (joinG (joinG G (onlyOf o.ini o.wr) o.wr) (bothOf o.ini o.wr) (onlyOf o.wr o.ini)).length := pairs_len _ _ _
    have h4 := ih (othersG G o.ini o.wr)
    simp only [initG, List.foldl_cons] at h4 ⊢
    omega
/-- What newSessionPolygraph leaves. -/
def NspPost (w : World) (hs : List (List Tx)) (F : Nat → Option Wr) : Ending → World → Prop := fun r w' =>
  ∃ (A : List Rk) (zs : List Nat) (NM : Nat × Nat → Option Nat) (vars vers : List Nat) (os : List Ob) (ss : List Sr) (fa : List Int) (ows G : List (List Nat)) (J : List Bool) (bN bF : Nat) (g : GG) (sg : SG) (og : OG),
    r = .returned (.tuple #[.pointer (some ⟨bN + 1, 0, none⟩), .slice (some ⟨bN + 2, 0, none⟩) A.length A.length]) ∧ NP hs F A zs NM vars vers os ss fa ows G J ∧ Poly (bN + 1) bN bF A.length g G J sg ss og os w' ∧ NamesAt bN A.length (nmsAt A zs A.length) w' ∧ Below w.heap.size w w' ∧
      w.heap.size ≤ bN ∧ (∀ k ∈ polyFp (bN + 1) g sg og, w.heap.size ≤ k) ∧ bN ∉ polyFp (bN + 1) g sg og ∧ G.length < 100000 ∧ wt G < 1000000 ∧ os.length ≤ 900 ∧ ss.length ≤ 900 ∧ A.length ≤ 12
end Go.Proofs.YbulkctquGreatFmt
