/-
  choose, no Go in sight: groups and members by label.
-/
import Derived.Test.YbulkctquGreatFmtChoB
import Derived.Test.YbulkctquGreatFmtChoS
namespace Go.Proofs.YbulkctquGreatFmt
open Go.ChangeShapes Go.WideShapes Go.ChangeAt Go.RowKit Go.Ord
set_option linter.unusedVariables false

def labOf (cmp : List Int) (x : Nat) : Nat := ((cmp[x]?).getD 0).toNat
def labC (cmp : List Int) (cs : List Cho) (c : Nat) : Nat := labOf cmp (choAt cs c).a0.i
def grpN (cmp : List Int) (cs : List Cho) (n L : Nat) : List Nat := (List.range n).filter (fun c => labC cmp cs c == L)
def memN (cmp : List Int) (cs : List Cho) (n L : Nat) : List Nat := if grpN cmp cs cs.length L = [] then [] else (List.range n).filter (fun v => labOf cmp v == L)
theorem filter_succ (p : Nat → Bool) (n : Nat) : (List.range (n + 1)).filter p = (List.range n).filter p ++ (if p n then [n] else []) := by
  rw [List.range_succ, List.filter_append]
  by_cases h : p n <;> simp [h]
theorem grpN_succ (cmp : List Int) (cs : List Cho) (n : Nat) : grpN cmp cs (n + 1) = fun L => if L = labC cmp cs n then grpN cmp cs n (labC cmp cs n) ++ [n] else grpN cmp cs n L := by
  funext L
  unfold grpN
  rw [filter_succ]
  by_cases e : L = labC cmp cs n
  · subst e; simp
  · have : (labC cmp cs n == L) = false := by simpa using fun h => e h.symm
    simp [e, this]
theorem memN_succ {cmp : List Int} {cs : List Cho} {n : Nat} (h : grpN cmp cs cs.length (labOf cmp n) ≠ []) : memN cmp cs (n + 1) = fun L => if L = labOf cmp n then memN cmp cs n (labOf cmp n) ++ [n] else memN cmp cs n L := by
  funext L
  unfold memN
  rw [filter_succ]
  by_cases e : L = labOf cmp n
  · subst e; simp [h]
  · have : (labOf cmp n == L) = false := by simpa using fun h => e h.symm
    simp [e, this]
theorem memN_skip {cmp : List Int} {cs : List Cho} {n : Nat} (h : grpN cmp cs cs.length (labOf cmp n) = []) : memN cmp cs (n + 1) = memN cmp cs n := by
  funext L
  unfold memN
  rw [filter_succ]
  by_cases e : L = labOf cmp n
  · subst e; simp [h]
  · have : (labOf cmp n == L) = false := by simpa using fun h => e h.symm
    simp [this]
theorem memN_zero (cmp : List Int) (cs : List Cho) : memN cmp cs 0 = fun _ => [] := by
  funext L; unfold memN; split <;> simp
theorem grpN_zero (cmp : List Int) (cs : List Cho) : grpN cmp cs 0 = fun _ => [] := by
  funext L; unfold grpN; simp
theorem mem_grpN {cmp : List Int} {cs : List Cho} {n L c : Nat} : c ∈ grpN cmp cs n L ↔ c < n ∧ labC cmp cs c = L := by
  simp [grpN]
theorem mem_memN {cmp : List Int} {cs : List Cho} {n L v : Nat} (h : grpN cmp cs cs.length L ≠ []) : v ∈ memN cmp cs n L ↔ v < n ∧ labOf cmp v = L := by
  simp [memN, h]
theorem grpN_nodup (cmp : List Int) (cs : List Cho) (n L : Nat) : (grpN cmp cs n L).Nodup := List.Nodup.sublist List.filter_sublist List.nodup_range
theorem memN_nodup (cmp : List Int) (cs : List Cho) (n L : Nat) : (memN cmp cs n L).Nodup := by
  unfold memN
  split
  · simp
  · exact List.Nodup.sublist List.filter_sublist List.nodup_range
theorem grpN_len (cmp : List Int) (cs : List Cho) (n L : Nat) : (grpN cmp cs n L).length ≤ n := by
  have := List.length_filter_le (fun c => labC cmp cs c == L) (List.range n)
  simpa [grpN] using this
theorem choAt_eq {cs : List Cho} {c : Nat} {C : Cho} (h : cs[c]? = some C) : choAt cs c = C := by simp [choAt, h]
theorem Comp.lab {G : List (List Nat)} {cmp : List Int} {siz : List Nat} (h : Comp G cmp siz) {x : Nat} (hx : x < G.length) : cmp[x]? = some (labOf cmp x : Int) := by
  obtain ⟨c, hc, _⟩ := h.all x hx
  simp [labOf, hc]
theorem Comp.labEq {G : List (List Nat)} {cmp : List Int} {siz : List Nat} (h : Comp G cmp siz) {x L : Nat} (hx : x < G.length) : cmp[x]? = some (L : Int) ↔ labOf cmp x = L := by
  rw [h.lab hx]
  constructor
  · intro e; injection e with e; omega
  · rintro rfl; rfl
/-- The same choices, up to their ways. -/
def SameC (cs cs' : List Cho) : Prop := cs'.length = cs.length ∧ ∀ (c : Nat) (C : Cho), cs'[c]? = some C → ∃ C0, cs[c]? = some C0 ∧ C.a0 = C0.a0 ∧ C.a1 = C0.a1
theorem SameC.refl (cs : List Cho) : SameC cs cs := ⟨rfl, fun c C h => ⟨C, h, rfl, rfl⟩⟩
theorem SameC.trans {a b c : List Cho} (h1 : SameC a b) (h2 : SameC b c) : SameC a c := ⟨h2.1.trans h1.1, fun i C h => by
  obtain ⟨C1, e1, e2, e3⟩ := h2.2 i C h
  obtain ⟨C0, f1, f2, f3⟩ := h1.2 i C1 e1
  exact ⟨C0, f1, e2.trans f2, e3.trans f3⟩⟩
theorem SameC.mem {a b : List Cho} (h : SameC a b) {C : Cho} (hC : C ∈ b) : ∃ C0 ∈ a, C.a0 = C0.a0 ∧ C.a1 = C0.a1 := by
  obtain ⟨i, hi⟩ := List.getElem?_of_mem hC
  obtain ⟨C0, e1, e2, e3⟩ := h.2 i C hi
  exact ⟨C0, List.mem_of_getElem? e1, e2, e3⟩
theorem SameC.lab {a b : List Cho} (h : SameC a b) (cmp : List Int) {c : Nat} {C : Cho} (hc : b[c]? = some C) : labC cmp a c = labOf cmp C.a0.i := by
  obtain ⟨C0, e1, e2, e3⟩ := h.2 c C hc
  rw [labC, choAt_eq e1, e2]
theorem NoCyc.same {G : List (List Nat)} {cmp : List Int} {cs cs' : List Cho} {L : Int} (h : NoCyc (RL G cmp cs L)) (hs : ∀ (c : Nat) (C : Cho), cs'[c]? = some C → cmp[C.a0.i]? = some L → cs[c]? = some C) : NoCyc (RL G cmp cs' L) := by
  have sub : ∀ x y, RL G cmp cs' L x y → RL G cmp cs L x y := by
    rintro x y ⟨h1, h2, h3 | ⟨c, C, h4, h5, h6⟩⟩
    · exact ⟨h1, h2, .inl h3⟩
    · exact ⟨h1, h2, .inr ⟨c, C, hs c C h4 h5, h5, h6⟩⟩
  have path : ∀ x y, RT (RL G cmp cs' L) x y → RT (RL G cmp cs L) x y := by
    intro x y hxy
    induction hxy with
    | refl => exact .refl
    | step h1 _ ih => exact .step (sub _ _ h1) ih
  exact fun x y hxy hp => h x y (sub x y hxy) (path y x hp)
/-- What choose gives. -/
def ChoPost (d bN bF m : Nat) (g : GG) (G : List (List Nat)) (J : List Bool) (sg : SG) (ss : List Sr) (og : OG) (os : List Ob) (v : SV) (fT fR : List Nat) (cs : List Cho) (vs : List (SV × SV)) (w : World) : Ending → World → Prop := fun e w' =>
  ∃ cs' : List Cho, PX d bN bF m g G J sg ss og os v fT fR cs' vs w' ∧ SameC cs cs' ∧ Upd fT w w' ∧
    (e = .returned (.slice none 0 0) ∧ (∀ C ∈ cs', C.way ≤ 1) ∧ Acy (chosen G cs') ∨ ∃ (b c : Nat) (K : List Nat), e = .returned (.slice (some ⟨b, 0, none⟩) K.length c) ∧ (K ≠ [] ∧ K.length ≤ 12) ∧ (∀ x ∈ K, x < m) ∧ Sl w' 3 1 (some ⟨b, 0, none⟩) K.length c [b] (K.map nI))
end Go.Proofs.YbulkctquGreatFmt
