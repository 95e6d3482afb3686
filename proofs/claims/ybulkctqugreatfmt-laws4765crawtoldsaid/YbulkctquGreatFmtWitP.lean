/-
  The witness, plainly.
-/
import Derived.Test.YbulkctquGreatFmtPlC
import Derived.Test.YbulkctquGreatFmtTexts
namespace Go.Proofs.YbulkctquGreatFmt
open Go.ChangeShapes Go.WideShapes Go.ChangeAt Go.RowKit Go.Ord
set_option linter.unusedVariables false

theorem dig_ne {n : Nat} (h : n < 100) : ∀ c ∈ Lib.decDigits n, c ≠ 116 := by
  intro c hc e
  subst e
  by_cases h1 : n < 10
  · rw [Lib.decDigits_one h1] at hc
    simp at hc
    have := congrArg UInt8.toNat hc
    simp at this
    omega
  · rw [Lib.decDigits_two h1 h] at hc
    simp at hc
    rcases hc with hc | hc
    · have := congrArg UInt8.toNat hc
      simp at this
      omega
    · have := congrArg UInt8.toNat hc
      simp at this
      omega
theorem dig_inj {m n : Nat} (hm : m < 100) (hn : n < 100) (h : Lib.decDigits m = Lib.decDigits n) : m = n := by
  by_cases h1 : m < 10
  · by_cases h2 : n < 10
    · rw [Lib.decDigits_one h1, Lib.decDigits_one h2] at h
      simp at h
      have := congrArg UInt8.toNat h
      simp at this
      omega
    · rw [Lib.decDigits_one h1, Lib.decDigits_two h2 hn] at h
      simp at h
  · by_cases h2 : n < 10
    · rw [Lib.decDigits_two h1 hm, Lib.decDigits_one h2] at h
      simp at h
    · rw [Lib.decDigits_two h1 hm, Lib.decDigits_two h2 hn] at h
      simp at h
      have h3 := congrArg UInt8.toNat h.1
      have h4 := congrArg UInt8.toNat h.2
      simp at h3 h4
      omega
theorem split_at {c : UInt8} : ∀ (a b x y : List UInt8), c ∉ a → c ∉ b → a ++ c :: x = b ++ c :: y → a = b ∧ x = y
  | [], [], x, y, _, _, h => by simp at h; exact ⟨rfl, h⟩
  | [], d :: b, x, y, _, hb, h => by simp at h hb; exact absurd h.1 (fun e => hb.1 e)
  | d :: a, [], x, y, ha, _, h => by simp at h ha; exact absurd h.1 (fun e => ha.1 e.symm)
  | d :: a, d' :: b, x, y, ha, hb, h => by
    simp at h ha hb
    obtain ⟨e1, e2⟩ := split_at a b x y ha.2 hb.2 h.2
    exact ⟨by rw [h.1, e1], e2⟩
theorem nm_inj {s k s' k' : Nat} (h1 : s < 90) (h2 : k < 90) (h3 : s' < 90) (h4 : k' < 90) (h : nm s k = nm s' k') : s = s' ∧ k = k' := by
  unfold nm at h
  simp only [List.append_assoc, List.cons_append, List.nil_append, List.cons.injEq, true_and] at h
  obtain ⟨e1, e2⟩ := split_at _ _ _ _ (fun hm => dig_ne (n := s + 1) (by omega) _ hm rfl) (fun hm => dig_ne (n := s' + 1) (by omega) _ hm rfl) h
  have a := dig_inj (by omega) (by omega) e1
  have b := dig_inj (by omega) (by omega) e2
  omega
theorem len_of_mem {P : List Nat} {m : Nat} (nd : P.Nodup) (mem : ∀ x, x ∈ P ↔ x < m) : P.length = m := by
  have : P.Perm (List.range m) := (List.perm_ext_iff_of_nodup nd List.nodup_range).mpr (fun a => by rw [mem, List.mem_range])
  simpa using this.length_eq
theorem ord_at {A : List Rk} {zs P : List Nat} (hp : zs.Perm (List.range A.length)) {i u : Nat} {p : Nat × Nat} (hi : P[i]? = some u) (hu : (ats A zs)[u]? = some p) : (nmsOf (nmsAt A zs A.length) P)[i]? = some (nm p.1 p.2) := by
  have hl : (ats A zs).length = A.length := ats_len hp
  have hz : zs.length = A.length := by have := hp.length_eq; simpa using this
  have hul := (List.getElem?_eq_some_iff.mp hu).1
  simp only [nmsOf, List.getElem?_map, hi, Option.map_some]
  congr 1
  rw [List.getD_eq_getElem?_getD, nmsAt, hz, Nat.sub_self, List.replicate_zero, List.append_nil, List.getElem?_map, List.getElem?_take, if_pos (by omega), hu]
  rfl
section
variable {hs : List (List Tx)} {A : List Rk} {zs P : List Nat} {T : Nat → Nat → Nat} {ss : List Sr}
/-- Where the witness stands. -/
structure WT (hs : List (List Tx)) (A : List Rk) (zs P : List Nat) (s k : Nat) (last : Int) (PS PK : List Nat) : Prop where
  lenS : PS.length = P.length
  lenK : PK.length = P.length
  put : ∀ (i u s' k' : Nat), P[i]? = some u → (ats A zs)[u]? = some (s', k') → (s' < s ∨ (s' = s ∧ k' < k)) → PS[i]? = some s' ∧ PK[i]? = some k'
  las : last = -1 ∨ ∃ i u b : Nat, last = (i : Int) ∧ P[i]? = some u ∧ (ats A zs)[u]? = some (s, b) ∧ b < k
variable {s k : Nat} {last : Int} {PS PK : List Nat}
theorem WT.start : WT hs A zs P 0 0 (-1) (List.replicate P.length 0) (List.replicate P.length 0) := ⟨by simp, by simp, fun i u s' k' _ _ h => by omega, .inl rfl⟩
theorem WT.skip (h : WT hs A zs P s k last PS PK) (hA : A = rksAll 0 hs) (hp : zs.Perm (List.range A.length)) (hn : ¬ Cm hs s k) : WT hs A zs P s (k + 1) last PS PK := by
  refine ⟨h.lenS, h.lenK, fun i u s' k' h1 h2 h3 => ?_, ?_⟩
  · refine h.put i u s' k' h1 h2 ?_
    have hc := ats_cm hA hp h2
    by_cases e : s' = s ∧ k' = k
    · obtain ⟨rfl, rfl⟩ := e; exact absurd hc hn
    · omega
  · rcases h.las with q | ⟨i, u, b, q1, q2, q3, q4⟩
    · exact .inl q
    · exact .inr ⟨i, u, b, q1, q2, q3, by omega⟩
theorem WT.ses (h : WT hs A zs P s k last PS PK) (hA : A = rksAll 0 hs) (hp : zs.Perm (List.range A.length)) {l : List Tx} (hl : hs[s]? = some l) (hk : k = l.length) : WT hs A zs P (s + 1) 0 (-1) PS PK := by
  refine ⟨h.lenS, h.lenK, fun i u s' k' h1 h2 h3 => ?_, .inl rfl⟩
  refine h.put i u s' k' h1 h2 ?_
  obtain ⟨l', t, g1, g2, _⟩ := ats_cm hA hp h2
  by_cases e : s' = s
  · subst e
    simp only at g1 g2
    rw [hl] at g1; cases g1
    have := (List.getElem?_eq_some_iff.mp g2).1
    omega
  · omega
theorem WT.step (h : WT hs A zs P s k last PS PK) (hA : A = rksAll 0 hs) (hp : zs.Perm (List.range A.length)) (nd : P.Nodup) {i u : Nat} (hi : P[i]? = some u) (hu : (ats A zs)[u]? = some (s, k)) : WT hs A zs P s (k + 1) (i : Int) (PS.set i s) (PK.set i k) := by
  have hil := (List.getElem?_eq_some_iff.mp hi).1
  refine ⟨by simpa using h.lenS, by simpa using h.lenK, fun j v s' k' h1 h2 h3 => ?_, .inr ⟨i, u, k, rfl, hi, hu, by omega⟩⟩
  have hS := h.lenS
  have hK := h.lenK
  by_cases e : i = j
  · subst e
    rw [hi] at h1; cases h1
    rw [hu] at h2; cases h2
    exact ⟨List.getElem?_set_self (by omega), List.getElem?_set_self (by omega)⟩
  · rw [List.getElem?_set_ne e, List.getElem?_set_ne e]
    refine h.put j v s' k' h1 h2 ?_
    by_cases e2 : s' = s ∧ k' = k
    · obtain ⟨rfl, rfl⟩ := e2
      have := ats_inj hA hp h2 hu
      subst this
      exact absurd (nodup_at nd hi h1) e
    · omega
theorem WT.more (h : WT hs A zs P s k last PS PK) (Q : PO hs A zs T ss P) {i u : Nat} (hi : P[i]? = some u) (hu : (ats A zs)[u]? = some (s, k)) : last < (i : Int) := by
  rcases h.las with q | ⟨j, v, b, q1, q2, q3, q4⟩
  · omega
  · have := Q.ses v u s b k q3 hu q4
    obtain ⟨a, c, e1, e2, e3⟩ := (befo_at Q.nd).mp this
    have e4 := nodup_at Q.nd q2 e2
    have e5 := nodup_at Q.nd hi e3
    omega
theorem WT.all (h : WT hs A zs P hs.length k last PS PK) (hA : A = rksAll 0 hs) (hp : zs.Perm (List.range A.length)) {i u s' k' : Nat} (h1 : P[i]? = some u) (h2 : (ats A zs)[u]? = some (s', k')) : PS[i]? = some s' ∧ PK[i]? = some k' := by
  refine h.put i u s' k' h1 h2 (.inl ?_)
  obtain ⟨l', t, g1, _⟩ := ats_cm hA hp h2
  exact (List.getElem?_eq_some_iff.mp g1).1
end
end Go.Proofs.YbulkctquGreatFmt
