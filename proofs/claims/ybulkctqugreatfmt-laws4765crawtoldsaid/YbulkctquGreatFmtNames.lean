import Derived.Test.YbulkctquGreatFmtRows
import Derived.Test.YbulkctquGreatFmtHeap
import Derived.Outline
import Derived.Shelf.Lay
import Derived.Shelf.Strconv.Itoa3
namespace Go.Proofs.YbulkctquGreatFmt
open Go.ChangeShapes Go.WideShapes Go.ChangeAt Go.RowKit Go.Ord
set_option linter.unusedVariables false
shelf_lay Lays.n171 Nm 171 at Ybaz as Ybaz.lays171

theorem itoa (i : Nat) (hi : i < 100) (w : World) : Calls Ybaz.prog 26 #[.int .i64 i] w fun e w' => e = .returned (.string ⟨(Lib.decDigits i).toArray⟩) ∧ w' = w := Any.strconv_Itoa_small Ybaz.lays171 i hi w

def nm (s k : Nat) : List UInt8 := [115] ++ Lib.decDigits (s + 1) ++ [116] ++ Lib.decDigits (k + 1)

theorem digits_le : ∀ n, n < 100 → (Lib.decDigits n).length ≤ 2 := by
  intro n hn
  by_cases h : n < 10
  · rw [Lib.decDigits_one h]; simp
  · rw [Lib.decDigits_two h hn]; simp

theorem cname (s k : Nat) (hs : s < 90) (hk : k < 90) (w : World) : Calls Ybaz.prog 22 #[.int .i64 s, .int .i64 k] w fun e w' => e = .returned (.string ⟨(nm s k).toArray⟩) ∧ w' = w := by
  have H1 : Hid (Calls Ybaz.prog 26 #[.int .i64 ((s : Int) + 1)] w fun e w' => e = .returned (.string ⟨(Lib.decDigits (s + 1)).toArray⟩) ∧ w' = w) := itoa (s + 1) (by omega) w
  have H2 : Hid (Calls Ybaz.prog 26 #[.int .i64 ((k : Int) + 1)] w fun e w' => e = .returned (.string ⟨(Lib.decDigits (k + 1)).toArray⟩) ∧ w' = w) := itoa (k + 1) (by omega) w
  have l1 := digits_le (s + 1) (by omega)
  have l2 := digits_le (k + 1) (by omega)
  generalize hd1 : Lib.decDigits (s + 1) = d1 at *
  generalize hd2 : Lib.decDigits (k + 1) = d2 at *
  have D1 : Hid _ := hd1
  have D2 : Hid _ := hd2
  clear hd1 hd2
  go_enter Ybaz.func22, Ybaz.ntmps22
  go_wp2_with fail
  refine H1.out.mono ?_
  rintro e w' ⟨rfl, rfl⟩
  go_wp2_with fail
  refine H2.out.mono ?_
  rintro e w' ⟨rfl, rfl⟩
  go_wp2_with fail
  go_ret
  refine ⟨?_, rfl⟩
  rw [nm, D1.out, D2.out]
  simp [ByteArray.ext_iff]

/-- A slice's words. -/
structure SV where
  a : Option Addr
  n : Nat
  c : Nat
def SV.val (s : SV) : Value := .slice s.a s.n s.c

structure Ev where
  k : Nat
  x : Nat
  v : Nat
  i : Bool
structure Tx where
  evs : List Ev
  com : Bool

/-- Where a history lies: the rows of its sessions and of its transactions' events. -/
structure HR where
  top : Nat
  ses : Nat → Nat
  sc : Nat → Nat
  evs : Nat → Nat → Nat
  ec : Nat → Nat → Nat
def HR.sesV (R : HR) (hs : List (List Tx)) (s : Nat) : Value := .slice (some ⟨R.ses s, 0, none⟩) (hs.getD s []).length (R.sc s)
structure HistAt (w : World) (R : HR) (hs : List (List Tx)) : Prop where
  ses : ∀ s l, hs[s]? = some l → ∃ o, w.cell? ⟨R.top, s, none⟩ = some (.slice o l.length (R.sc s)) ∧ (l ≠ [] → o = some ⟨R.ses s, 0, none⟩)
  com : ∀ s l k t, hs[s]? = some l → l[k]? = some t → w.cell? ⟨R.ses s, k * 2 + 1, none⟩ = some (.bool t.com)
  evs : ∀ s l k t, hs[s]? = some l → l[k]? = some t → ∃ o, w.cell? ⟨R.ses s, k * 2, none⟩ = some (.slice o t.evs.length (R.ec s k)) ∧ (t.evs ≠ [] → o = some ⟨R.evs s k, 0, none⟩)

def rowN (s : Nat) : Nat → List Tx → List (List UInt8)
  | _, [] => []
  | k, _ :: r => nm s k :: rowN s (k + 1) r
def rowA (s : Nat) : Nat → List Tx → List (List UInt8)
  | _, [] => []
  | k, t :: r => (if t.com then [] else [nm s k]) ++ rowA s (k + 1) r
def allN : Nat → List (List Tx) → List (List UInt8)
  | _, [] => []
  | s, l :: r => rowN s 0 l ++ allN (s + 1) r
def allA : Nat → List (List Tx) → List (List UInt8)
  | _, [] => []
  | s, l :: r => rowA s 0 l ++ allA (s + 1) r
def strV (s : List UInt8) : Value := .string ⟨s.toArray⟩
theorem info9 : (Ybaz.prog.info? 9).map (fun i => (i.zero, i.size, i.bytes)) = some (some (.string ⟨#[]⟩), 1, 16) := by kernel_rfl
theorem slStr : SliceOf Ybaz.prog 43 9 1 16 := by
  obtain ⟨i, h1, h2, h3, h4⟩ := info_parts info9
  exact ⟨Ybaz.underlying43, i, _, h1, h2, h3, h4, rfl, by decide⟩

theorem HistAt.keep {w w' : World} {R : HR} {hs : List (List Tx)} (H : HistAt w R hs) (h : ∀ b j v, w.cell? ⟨b, j, none⟩ = some v → w'.cell? ⟨b, j, none⟩ = some v) : HistAt w' R hs :=
  ⟨fun s l h1 => by obtain ⟨o, h2, h3⟩ := H.ses s l h1; exact ⟨o, h _ _ _ h2, h3⟩, fun s l k t h1 h2 => h _ _ _ (H.com s l k t h1 h2), fun s l k t h1 h2 => by obtain ⟨o, h3, h4⟩ := H.evs s l k t h1 h2; exact ⟨o, h _ _ _ h3, h4⟩⟩

theorem rowN_len (s : Nat) (l : List Tx) : ∀ k, (rowN s k l).length = l.length := by
  induction l with
  | nil => intro k; rfl
  | cons t l ih => intro k; simp [rowN, ih]
theorem rowA_len (s : Nat) (l : List Tx) : ∀ k, (rowA s k l).length ≤ l.length := by
  induction l with
  | nil => intro k; simp [rowA]
  | cons t l ih => intro k; have := ih (k + 1); simp only [rowA, List.length_append, List.length_cons]; split <;> simp <;> omega
theorem allN_len (hs : List (List Tx)) : ∀ s, (∀ l ∈ hs, l.length < 90) → (allN s hs).length ≤ hs.length * 90 := by
  induction hs with
  | nil => intro s _; simp [allN]
  | cons l r ih =>
    intro s h
    have h1 := ih (s + 1) (fun x hx => h x (by simp [hx]))
    have h2 := h l (by simp)
    simp only [allN, List.length_append, rowN_len, List.length_cons]
    omega
theorem allA_len (hs : List (List Tx)) : ∀ s, (∀ l ∈ hs, l.length < 90) → (allA s hs).length ≤ hs.length * 90 := by
  induction hs with
  | nil => intro s _; simp [allA]
  | cons l r ih =>
    intro s h
    have h1 := ih (s + 1) (fun x hx => h x (by simp [hx]))
    have h2 := h l (by simp)
    have h3 := rowA_len s l 0
    simp only [allA, List.length_append, List.length_cons]
    omega

/-- Two lists of texts that the call owns. -/
structure Two (w0 w : World) (vA vB : SV) (A B : List (List UInt8)) : Prop where
  sA : ∃ fA, Sl w 9 1 vA.a vA.n vA.c fA (A.map strV) ∧ (∀ k ∈ fA, w0.heap.size ≤ k) ∧ ∃ fB, Sl w 9 1 vB.a vB.n vB.c fB (B.map strV) ∧ (∀ k ∈ fB, w0.heap.size ≤ k) ∧ ∀ k ∈ fA, k ∉ fB
  bel : Below w0.heap.size w0 w
  lA : vA.n = A.length
  lB : vB.n = B.length

theorem Two.swap {w0 w : World} {vA vB : SV} {A B : List (List UInt8)} (h : Two w0 w vA vB A B) : Two w0 w vB vA B A := by
  obtain ⟨fA, h1, h2, fB, h3, h4, h5⟩ := h.sA
  exact ⟨⟨fB, h3, h4, fA, h1, h2, fun k h6 h7 => h5 k h7 h6⟩, h.bel, h.lB, h.lA⟩
theorem Two.grow {w0 wr w1 : World} {vA vB : SV} {A B : List (List UInt8)} (H : Two w0 wr vA vB A B) {fA fB : List Nat}
    (nA : ∀ k ∈ fA, w0.heap.size ≤ k) (sB : Sl wr 9 1 vB.a vB.n vB.c fB (B.map strV)) (nB : ∀ k ∈ fB, w0.heap.size ≤ k) (d : ∀ k ∈ fA, k ∉ fB)
    {g c : Nat} {x : List UInt8} {v : Value} (hv : v = strV x) (sA1 : Sl w1 9 1 (some ⟨g, 0, none⟩) (vA.n + 1) c [g] (A.map strV ++ [v])) (u : Upd fA wr w1) (f : g ∈ fA ∨ wr.heap.size ≤ g) :
    Two w0 w1 ⟨some ⟨g, 0, none⟩, vA.n + 1, c⟩ vB (A ++ [x]) B := by
  subst hv
  have hz := H.bel.size
  refine ⟨⟨[g], by simpa using sA1, ?_, fB, sB.keep u (fun k h1 h2 => d k h2 h1), nB, ?_⟩, H.bel.trans (u.below hz nA), by simp [H.lA], H.lB⟩
  · intro k hk; simp at hk; subst hk
    rcases f with f | f
    · exact nA _ f
    · omega
  · intro k hk hm; simp at hk; subst hk
    rcases f with f | f
    · exact d _ f hm
    · have := sB.lt _ hm; omega

set_option maxRecDepth 100000 in
theorem names_any (w : World) (R : HR) (hs : List (List Tx)) (H : HistAt w R hs) (cap : Nat) (hl : hs.length < 90) (hl2 : ∀ l ∈ hs, l.length < 90) :
    Calls Ybaz.prog 7 #[.agg #[.slice (some ⟨R.top, 0, none⟩) hs.length cap]] w fun e w' => ∃ vA vB, e = .returned (.tuple #[vA.val, vB.val]) ∧ Two w w' vA vB (allN 0 hs) (allA 0 hs) := by
  have H' : Hid _ := H
  have hl2' : Hid _ := hl2
  clear H hl2
  go_enter Ybaz.func7, Ybaz.ntmps7
  go_wp2_with fail
  go_loopw [4, 5, 14] (fun t4 t5 t14 wr => ∃ (s : Nat) (vA vB : SV) (A B : List (List UInt8)), s ≤ hs.length ∧ t14 = .int .i64 s ∧ t4 = .slice vA.a vA.n vA.c ∧ t5 = .slice vB.a vB.n vB.c ∧ Two w wr vA vB A B ∧ A ++ allN s (hs.drop s) = allN 0 hs ∧ B ++ allA s (hs.drop s) = allA 0 hs) (fun _ _ i _ => hs.length - (intOf i).toNat)
  case atStart =>
    exact ⟨0, ⟨none, 0, 0⟩, ⟨none, 0, 0⟩, [], [], by omega, rfl, rfl, rfl, ⟨⟨[], Sl.empty _ _ _, by simp, [], Sl.empty _ _ _, by simp, by simp⟩, (Below.refl _ _).alloc (Nat.le_refl _) _, rfl, rfl⟩, by simp, by simp⟩
  case round =>
    obtain ⟨s, vA, vB, A, B, hs1, rfl, rfl, rfl, h2, eA, eB⟩ := hrel
    have H2 : Hid _ := h2
    have EA : Hid _ := eA
    have EB : Hid _ := eB
    clear h2 eA eB
    by_cases hlt : s < hs.length
    · obtain ⟨l, hl3⟩ : ∃ l, hs[s]? = some l := ⟨_, List.getElem?_eq_getElem hlt⟩
      have L3 : Hid _ := hl3
      clear hl3
      have HW := H'.out.keep (fun b j v h => (H2.out.bel.cell (World.block_lt_of_cell? _ _ h)).trans h)
      obtain ⟨o, c1, c2⟩ := HW.ses s l L3.out
      have C2 : Hid _ := c2
      have HW' : Hid _ := HW
      clear c2 HW
      go_wp2_with fail
      clear c1
      go_loopw [4, 5, 21] (fun t4 t5 t21 wr => ∃ (k : Nat) (vA vB : SV) (A B : List (List UInt8)), k ≤ l.length ∧ t21 = .int .i64 k ∧ t4 = .slice vA.a vA.n vA.c ∧ t5 = .slice vB.a vB.n vB.c ∧ Two w wr vA vB A B ∧ A ++ (rowN s k (l.drop k) ++ allN (s + 1) (hs.drop (s + 1))) = allN 0 hs ∧ B ++ (rowA s k (l.drop k) ++ allA (s + 1) (hs.drop (s + 1))) = allA 0 hs) (fun _ _ i _ => l.length - (intOf i).toNat)
      case atStart =>
        have hd : hs.drop s = l :: hs.drop (s + 1) := by
          rw [List.drop_eq_getElem_cons hlt]
          have := L3.out
          rw [List.getElem?_eq_getElem hlt] at this
          injection this with this
          rw [this]
        exact ⟨0, vA, vB, A, B, by omega, rfl, rfl, rfl, H2.out, by have := EA.out; rw [hd] at this; simpa [allN] using this, by have := EB.out; rw [hd] at this; simpa [allA] using this⟩
      case round =>
        obtain ⟨k, vA', vB', A', B', hk1, rfl, rfl, rfl, h2, eA, eB⟩ := hrel
        have H2' : Hid _ := h2
        have EA' : Hid _ := eA
        have EB' : Hid _ := eB
        clear h2 eA eB
        by_cases hlt2 : k < l.length
        · obtain ⟨t, ht⟩ : ∃ t, l[k]? = some t := ⟨_, List.getElem?_eq_getElem hlt2⟩
          have T3 : Hid _ := ht
          clear ht
          have HW2 := H'.out.keep (fun b j v h => (H2'.out.bel.cell (World.block_lt_of_cell? _ _ h)).trans h)
          obtain ⟨o2, c3, c4⟩ := HW2.evs s l k t L3.out T3.out
          have c5 := HW2.com s l k t L3.out T3.out
          have ho : o = some ⟨R.ses s, 0, none⟩ := C2.out (by intro h; rw [h] at hlt2; simp at hlt2)
          subst ho
          have C4 : Hid _ := c4
          have HW2' : Hid _ := HW2
          clear c4 HW2
          have hk90 : k < 90 := by
            have := hl2'.out l (List.mem_of_getElem? L3.out)
            omega
          go_wp2_with fail
          refine (cname s k (by omega) hk90 _).mono ?_
          rintro e w' ⟨rfl, rfl⟩
          obtain ⟨fA, sA, nA, fB, sB, nB, dAB⟩ := H2'.out.sA
          have SA : Hid _ := sA
          have SB : Hid _ := sB
          have DAB : Hid _ := dAB
          have NA : Hid _ := nA
          have NB : Hid _ := nB
          have hAn : vA'.n < 1000000000000 := by
            have e1 := congrArg List.length EA'.out
            have e2 := allN_len hs 0 hl2'.out
            have e3 := H2'.out.lA
            simp only [List.length_append] at e1
            omega
          have hBn : vB'.n < 1000000000000 := by
            have e1 := congrArg List.length EB'.out
            have e2 := allA_len hs 0 hl2'.out
            have e3 := H2'.out.lB
            simp only [List.length_append] at e1
            omega
          clear sA sB dAB nA nB
          have hbx : wr.heap.size ∉ fA := fun hm => by have := SA.out.lt _ hm; omega
          have hbx2 : Hid (wr.heap.size ∉ fA) := hbx
          clear hbx
          go_wp2_with (first
            | (at_builtin; refine wpList_append_one _ _ (Upd.refl [] _) rfl (.tmp 29) (.tmp 31) 43 rfl 9 16 slStr (by decide) vA'.a vA'.n vA'.c fA (A'.map strV) rfl (SA.out.keep (Upd.alloc [] _ _) (by simp)) (by simp) _ rfl _ _ rfl (by simp) hAn ?_; intro gA cA w1 sA1 uA1 fA1; go_loud (have c7 : w1.cell? ⟨wr.heap.size, 1, none⟩ = some (.bool t.com) := uA1.cell (by simp) (by simpa using hbx2.out)); have SA1 : Hid _ := sA1; have UA1 : Hid _ := uA1; have FA1 : Hid _ := fA1; clear sA1 uA1 fA1)
            | (at_builtin; refine wpList_append_one w1 _ (Upd.refl [] _) rfl (.tmp 36) (.tmp 38) 43 rfl 9 16 slStr (by decide) vB'.a vB'.n vB'.c fB (B'.map strV) rfl ((SB.out.keep (Upd.alloc [] _ _) (by simp)).keep UA1.out (by simpa using fun k h1 h2 => DAB.out k h2 h1)) (by simp) _ rfl _ _ rfl (by simp) hBn ?_; intro gB cB w2 sB1 uB1 fB1; have SB1 : Hid _ := sB1; have UB1 : Hid _ := uB1; have FB1 : Hid _ := fB1; clear sB1 uB1 fB1))
          all_goals have U1 : Upd fA wr w1 := (Upd.alloc fA wr _).trans UA1.out (fun x hx => .inl hx)
          all_goals have F1 := past FA1.out
          all_goals have T1 := H2'.out.grow NA.out SB.out NB.out DAB.out rfl SA1.out U1 F1
          all_goals have ea := EA'.out
          all_goals have eb := EB'.out
          all_goals rw [drop_at T3.out] at ea eb
          all_goals simp only [rowN, rowA] at ea eb
          · rename_i hc
            have hc : t.com = false := by simpa using hc
            have hz := H2'.out.bel.size
            have g1 : ∀ j ∈ [gA], w.heap.size ≤ j := by
              intro j hj; simp at hj; subst hj
              rcases F1 with f | f
              · exact NA.out _ f
              · omega
            have g2 : ∀ j ∈ fB, j ∉ [gA] := by
              intro j hj hm; simp at hm; subst hm
              rcases F1 with f | f
              · exact DAB.out _ f hj
              · have := SB.out.lt _ hj; omega
            have T2 := (T1.swap.grow NB.out (fB := [gA]) (by have := SA1.out; simp only [List.map_append, List.map_cons, List.map_nil]; exact this) g1 g2 rfl SB1.out UB1.out FB1.out).swap
            refine ⟨⟨k + 1, _, _, _, _, by omega, by go_num, rfl, rfl, T2, by simpa using ea, by simpa [hc] using eb⟩, by simp [intOf]; omega⟩
          · rename_i hc
            have hc : t.com = true := by simpa using hc
            refine ⟨⟨k + 1, _, _, _, _, by omega, by go_num, rfl, rfl, T1, by simpa using ea, by simpa [hc] using eb⟩, by simp [intOf]; omega⟩
        · have hk2 : k = l.length := by omega
          subst hk2
          go_wp2_with fail
          have ea := EA'.out
          have eb := EB'.out
          rw [List.drop_length] at ea eb
          exact ⟨⟨s + 1, vA', vB', A', B', by omega, by go_num, rfl, rfl, H2'.out, by simpa [rowN] using ea, by simpa [rowA] using eb⟩, by simp [intOf]; omega⟩
    · have hs2 : s = hs.length := by omega
      subst hs2
      go_wp2_with fail
      go_ret2
      have ea := EA.out
      have eb := EB.out
      rw [List.drop_length] at ea eb
      simp only [allN, allA, List.append_nil] at ea eb
      subst ea eb
      exact ⟨vA, vB, rfl, H2.out⟩
end Go.Proofs.YbulkctquGreatFmt
