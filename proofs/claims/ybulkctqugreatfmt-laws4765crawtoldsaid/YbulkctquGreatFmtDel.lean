/-
  slices.DeleteFunc with a closure that only reads; the closure that tells junctions.
-/
import Derived.Test.YbulkctquGreatFmtWin
import Derived.Test.YbulkctquGreatFmtTexts
import Derived.Test.YbulkctquGreatFmtRows
import Derived.Outline
import Derived.BigGuard
import Derived.BigCall
import Derived.CellFam
import Derived.Deep.Draws
import Derived.Deep.QuietTactic
import Derived.BigQuiet
namespace Go.Proofs.YbulkctquGreatFmt
open Go.ChangeShapes Go.WideShapes Go.ChangeAt Go.RowKit Go.Ord
set_option linter.unusedVariables false

set_option maxRecDepth 100000 in
theorem jun18 (W : World) (bx d bJ n cJ t : Nat) (j : Bool) (h1 : W.cell? ⟨bx, 0, none⟩ = some (.pointer (some ⟨d, 0, none⟩))) (h2 : W.cell? ⟨d, 3, none⟩ = some (.slice (some ⟨bJ, 0, none⟩) n cJ)) (h4 : W.cell? ⟨bJ, t, none⟩ = some (.bool j)) (ht : t < n) :
    Calls Ybaz.prog 18 #[.int .i64 t, .pointer (some ⟨bx, 0, none⟩)] W fun e w' => e = .returned (.bool j) ∧ ∃ q, w' = W.drewN q := by
  go_enter Ybaz.func18, Ybaz.ntmps18
  go_wp2_with fail
  go_ret
  exact ⟨rfl, 0, rfl⟩
set_option maxRecDepth 100000 in
/-- slices.IndexFunc with a closure that only reads. -/
theorem idx41J (w : World) (a : Option Addr) (c : Nat) (xs : List Nat) (hl : xs.length < 1000000) (p : Nat → Bool) (cb : Array Value) (hc : ∀ (j x : Nat), xs[j]? = some x → ∃ b, a = some ⟨b, 0, none⟩ ∧ w.cell? ⟨b, j, none⟩ = some (.int .i64 x))
    (hcm : ∀ q x, x ∈ xs → Calls Ybaz.prog 18 (#[.int .i64 x] ++ cb) (w.drewN q) fun e w' => e = .returned (.bool (p x)) ∧ ∃ r, w' = (w.drewN q).drewN r) :
    Calls Ybaz.prog 41 #[.slice a xs.length c, .func (.func 18) #[] cb] w fun e w' => ∃ i : Int, e = .returned (.int .i64 i) ∧ ((i = -1 ∧ ∀ x ∈ xs, p x = false) ∨ ∃ (k x : Nat), i = (k : Int) ∧ xs[k]? = some x ∧ p x = true ∧ ∀ (j y : Nat), j < k → xs[j]? = some y → p y = false) ∧ ∃ q, w' = w.drewN q := by
  have HC : Hid (∀ (j x : Nat), xs[j]? = some x → ∃ b, a = some ⟨b, 0, none⟩ ∧ w.cell? ⟨b, j, none⟩ = some (.int .i64 x)) := hc
  have HM : Hid (∀ q x, x ∈ xs → Calls Ybaz.prog 18 (#[.int .i64 x] ++ cb) (w.drewN q) fun e w' => e = .returned (.bool (p x)) ∧ ∃ r, w' = (w.drewN q).drewN r) := hcm
  clear hc hcm
  go_enter Ybaz.func41, Ybaz.ntmps41
  go_wp2_with fail
  go_loopw [8] (fun t8 wr => ∃ i q : Nat, i ≤ xs.length ∧ t8 = .int .i64 i ∧ (∀ (j y : Nat), j < i → xs[j]? = some y → p y = false) ∧ wr = w.drewN q) (fun u _ => xs.length - (intOf u).toNat)
  case atStart => exact ⟨0, 0, by omega, rfl, fun j y h => by omega, rfl⟩
  case round =>
    obtain ⟨i, q, hi, rfl, hn, rfl⟩ := hrel
    have HN : Hid (∀ (j y : Nat), j < i → xs[j]? = some y → p y = false) := hn
    clear hn
    by_cases hlt : i < xs.length
    · obtain ⟨x, hx⟩ := has_at xs hlt
      obtain ⟨b, rfl, cx⟩ := HC.out i x hx
      have cz : (w.drewN q).cell? ⟨b, i, none⟩ = some (.int .i64 x) := cx
      have hK : Hid (Calls Ybaz.prog 18 (#[.int .i64 x] ++ cb) (w.drewN q) fun e w' => e = .returned (.bool (p x)) ∧ ∃ r, w' = (w.drewN q).drewN r) := HM.out q x (List.mem_of_getElem? hx)
      have HX : Hid (xs[i]? = some x) := hx
      clear hx cx
      go_wp2_with fail
      refine Calls.mono hK.out ?_
      rintro e w1 ⟨rfl, r, rfl⟩
      rw [World.drewN_drewN]
      by_cases hp : p x = true
      · rw [hp]
        go_wp2_with fail
        go_ret
        exact ⟨(i : Int), rfl, .inr ⟨i, x, rfl, HX.out, hp, HN.out⟩, _, rfl⟩
      · have hp2 : p x = false := by simpa using hp
        rw [hp2]
        go_wp2_with fail
        refine ⟨⟨i + 1, q + r, by omega, by go_num, fun j y hj hy => ?_, rfl⟩, by simp [intOf] <;> omega⟩
        by_cases e : j = i
        · subst e; rw [HX.out] at hy; cases hy; exact hp2
        · exact HN.out j y (by omega) hy
    · have hi2 : i = xs.length := by omega
      go_wp2_with fail
      go_ret
      refine ⟨-1, rfl, .inl ⟨rfl, fun x hx => ?_⟩, _, rfl⟩
      obtain ⟨j, hj⟩ := List.getElem?_of_mem hx
      exact HN.out j x (by have := (List.getElem?_eq_some_iff.mp hj).1; omega) hj
/-- What stands while the rest is walked. -/
structure DI (xs : List Nat) (p : Nat → Bool) (i j : Nat) (L : List Nat) : Prop where
  len : L.length = xs.length
  low : L.take i = (xs.take j).filter (fun x => !p x)
  hlow : ((xs.take j).filter (fun x => !p x)).length = i
  high : ∀ k, j ≤ k → L[k]? = xs[k]?
  lt : i < j
theorem filter_none {xs : List Nat} {p : Nat → Bool} {k : Nat} (h : ∀ (j y : Nat), j < k → xs[j]? = some y → p y = false) : (xs.take k).filter (fun x => !p x) = xs.take k := by
  apply List.filter_eq_self.mpr
  intro a ha
  obtain ⟨j, hj⟩ := List.getElem?_of_mem ha
  have hl := (List.getElem?_eq_some_iff.mp hj).1
  rw [List.getElem?_take, if_pos (by simp at hl; omega)] at hj
  simp [h j a (by simp at hl; omega) hj]
theorem DI.start {xs : List Nat} {p : Nat → Bool} {k x : Nat} (hx : xs[k]? = some x) (hp : p x = true) (h : ∀ (j y : Nat), j < k → xs[j]? = some y → p y = false) : DI xs p k (k + 1) xs := by
  have hl := (List.getElem?_eq_some_iff.mp hx).1
  have e : (xs.take (k + 1)).filter (fun x => !p x) = xs.take k := by
    rw [List.take_add_one, hx, List.filter_append, filter_none h]; simp [hp]
  exact ⟨rfl, by rw [e], by rw [e]; simp; omega, fun _ _ => rfl, by omega⟩
theorem DI.skip {xs : List Nat} {p : Nat → Bool} {i j x : Nat} {L : List Nat} (h : DI xs p i j L) (hx : xs[j]? = some x) (hp : p x = true) : DI xs p i (j + 1) L := by
  have e : (xs.take (j + 1)).filter (fun x => !p x) = (xs.take j).filter (fun x => !p x) := by
    rw [List.take_add_one, hx, List.filter_append]; simp [hp]
  exact ⟨h.len, by rw [e]; exact h.low, by rw [e]; exact h.hlow, fun k hk => h.high k (by omega), by have := h.lt; omega⟩
theorem DI.put {xs : List Nat} {p : Nat → Bool} {i j x : Nat} {L : List Nat} (h : DI xs p i j L) (hx : xs[j]? = some x) (hp : p x = false) : DI xs p (i + 1) (j + 1) (L.set i x) := by
  have hl := (List.getElem?_eq_some_iff.mp hx).1
  have hlt := h.lt
  have e : (xs.take (j + 1)).filter (fun x => !p x) = (xs.take j).filter (fun x => !p x) ++ [x] := by
    rw [List.take_add_one, hx, List.filter_append]; simp [hp]
  have hLl := h.len
  refine ⟨by simp [hLl], ?_, by rw [e, List.length_append, h.hlow]; rfl, fun k hk => ?_, by omega⟩
  · rw [e, ← h.low, List.take_add_one, List.getElem?_set_self (by omega), List.take_set_of_le (by omega)]; rfl
  · rw [List.getElem?_set_ne (by omega)]; exact h.high k (by omega)
set_option maxRecDepth 100000 in
theorem del16 (w : World) (g c : Nat) (xs : List Nat) (hl : xs.length < 1000000) (hS : Sl w 3 1 (some ⟨g, 0, none⟩) xs.length c [g] (xs.map nI)) (p : Nat → Bool) (cb : Array Value)
    (hcm : ∀ W x, x ∈ xs → Upd [g] w W → Calls Ybaz.prog 18 (#[.int .i64 x] ++ cb) W fun e w' => e = .returned (.bool (p x)) ∧ ∃ r, w' = W.drewN r) :
    Calls Ybaz.prog 16 #[.slice (some ⟨g, 0, none⟩) xs.length c, .func (.func 18) #[] cb] w fun e w' => e = .returned (.slice (some ⟨g, 0, none⟩) (xs.filter (fun x => !p x)).length c) ∧ Sl w' 3 1 (some ⟨g, 0, none⟩) (xs.filter (fun x => !p x)).length c [g] ((xs.filter (fun x => !p x)).map nI) ∧ Upd [g] w w' := by
  have HS : Hid _ := hS
  have HM : Hid (∀ W x, x ∈ xs → Upd [g] w W → Calls Ybaz.prog 18 (#[.int .i64 x] ++ cb) W fun e w' => e = .returned (.bool (p x)) ∧ ∃ r, w' = W.drewN r) := hcm
  have KI : Hid _ := idx41J w (some ⟨g, 0, none⟩) c xs hl p cb (fun j x hx => by
    obtain ⟨b, e1, e2, e3⟩ := hS.get (j := j) (v := nI x) (by simp [hx])
    exact ⟨b, e1, e3⟩) (fun q x hx => hcm _ x hx (Upd.drewN _ _ _))
  have hle := hS.le
  have hc : c ≤ 9223372036854775807 := hle.2
  have hxc : xs.length ≤ c := hle.1
  clear hS hcm hle
  go_enter Ybaz.func16, Ybaz.ntmps16
  go_wp2_with fail
  refine Calls.mono KI.out ?_
  rintro e w1 ⟨i0, rfl, hi0, q, rfl⟩
  rcases hi0 with ⟨rfl, hno⟩ | ⟨k, x0, rfl, hk, hpx, hlow⟩
  · go_wp2_with fail
    go_ret
    have e : xs.filter (fun x => !p x) = xs := List.filter_eq_self.mpr (fun a ha => by simp [hno a ha])
    rw [e]
    exact ⟨rfl, HS.out.keep (Upd.drewN [] _ _) (by simp), Upd.drewN _ _ _⟩
  · have hkl : k < xs.length := (List.getElem?_eq_some_iff.mp hk).1
    have D0 : Hid _ := DI.start hk hpx hlow
    have hk1 : ((k : Int) == -1) = false := by simp
    clear hk hpx hlow
    go_wp2_with fail
    go_loopw [5, 6] (fun t5 t6 wr => ∃ (i j : Nat) (L : List Nat), t5 = .int .i64 i ∧ t6 = .int .i64 j ∧ j ≤ xs.length ∧ DI xs p i j L ∧ Sl wr 3 1 (some ⟨g, 0, none⟩) xs.length c [g] (L.map nI) ∧ Upd [g] w wr) (fun _ u _ => xs.length - (intOf u).toNat)
    case atStart => exact ⟨k, k + 1, xs, rfl, by go_num, by omega, D0.out, HS.out.keep (Upd.drewN [] _ _) (by simp), Upd.drewN _ _ _⟩
    case round =>
      obtain ⟨i, j, L, rfl, rfl, hj, d1, s1, u1⟩ := hrel
      have DH : Hid _ := d1
      have SH : Hid _ := s1
      have UH : Hid (Upd [g] w wr) := u1
      have hij := d1.lt
      by_cases hlt : j < xs.length
      · obtain ⟨x, hx⟩ := has_at xs hlt
        have cz : wr.cell? ⟨g, j, none⟩ = some (.int .i64 x) := by
          obtain ⟨b, e1, e2, e3⟩ := s1.get (j := j) (v := nI x) (by rw [List.getElem?_map, d1.high j (Nat.le_refl _), hx]; rfl)
          injection e1 with e1; injection e1 with e1; subst e1; exact e3
        have KC : Hid _ := HM.out wr x (List.mem_of_getElem? hx) u1
        have HX : Hid (xs[j]? = some x) := hx
        clear d1 s1 u1 hx
        go_wp2_with fail
        refine Calls.mono KC.out ?_
        rintro e w2 ⟨rfl, r, rfl⟩
        have U2 : Hid (Upd [g] w (wr.drewN r)) := UH.out.trans (Upd.drewN [] _ _) (by simp)
        have S2 : Hid (Sl (wr.drewN r) 3 1 (some ⟨g, 0, none⟩) xs.length c [g] (L.map nI)) := SH.out.keep (Upd.drewN [] _ _) (by simp)
        by_cases hp : p x = true
        · rw [hp]
          go_wp2_with fail
          exact ⟨⟨i, j + 1, L, rfl, by go_num, by omega, DH.out.skip HX.out hp, S2.out, U2.out⟩, by simp [intOf] <;> omega⟩
        · have hp2 : p x = false := by simpa using hp
          rw [hp2]
          have ci : ∃ v, (wr.drewN r).cell? ⟨g, i, none⟩ = some v := by
            obtain ⟨y, hy⟩ := has_at (L.map nI) (k := i) (by have := DH.out.len; simp; omega)
            obtain ⟨b, e1, e2, e3⟩ := S2.out.get hy
            injection e1 with e1; injection e1 with e1; subst e1
            exact ⟨y, e3⟩
          obtain ⟨v0, ci⟩ := ci
          have cf : (wr.drewN r).frozen? ⟨g, i, none⟩ = false := by
            obtain ⟨b, e1, _, _, _, e3⟩ := S2.out.has (by omega)
            injection e1 with e1; injection e1 with e1; subst e1
            exact e3 i
          have S3 : Hid (Sl ((wr.drewN r).setCell ⟨g, i, none⟩ (.int .i64 x)) 3 1 (some ⟨g, 0, none⟩) xs.length c [g] ((L.set i x).map nI)) := by
            have := S2.out.store i (.int .i64 x)
            rw [show (L.set i x).map nI = (L.map nI).set i (.int .i64 x) by rw [List.map_set]; rfl]
            exact this
          have U3 : Hid (Upd [g] w ((wr.drewN r).setCell ⟨g, i, none⟩ (.int .i64 x))) := U2.out.trans (Upd.store _ _ _ _) (fun k hk => .inl hk)
          go_wp2_with fail
          exact ⟨⟨i + 1, j + 1, L.set i x, by go_num, by go_num, by omega, DH.out.put HX.out hp2, S3.out, U3.out⟩, by simp [intOf] <;> omega⟩
      · have hj2 : j = xs.length := by omega
        have hil : i < xs.length := by omega
        have hL : L.length = xs.length := d1.len
        have hout : ∀ t, t < xs.length - i → (wr.cell? ⟨g, i + t, none⟩).isSome = true := fun t ht => by
          obtain ⟨y, hy⟩ := has_at (L.map nI) (k := i + t) (by simp; omega)
          obtain ⟨b, e1, e2, e3⟩ := s1.get hy
          injection e1 with e1; injection e1 with e1; subst e1
          rw [e3]; rfl
        have hfr : ∀ t, t < xs.length - i → wr.frozen? ⟨g, i + t, none⟩ = false := fun t ht => by
          obtain ⟨b, e1, _, _, _, e3⟩ := s1.has (by omega)
          injection e1 with e1; injection e1 with e1; subst e1
          exact e3 _
        have hz3 : ∀ w, (zeroValue 3).run Ybaz.prog w = .ok (.int .i64 0) w := fun w => by kernel_rfl
        have hcl : ∀ ty, (Builtin.clear_ #[83] ty #[.slice (some ⟨g, i, none⟩) (xs.length - i) (c - i)]).run Ybaz.prog wr = .ok (.tuple #[]) (wr.setCells g i (List.replicate (xs.length - i) (.int .i64 0))) :=
          fun ty => Lib.run_clear_slice wr 83 3 ty _ Ybaz.underlying83 hz3 rfl rfl g i _ _ (by omega) hout hfr
        clear hout hfr hz3 d1 s1 u1
        go_wp2_with fail
        go_ret
        have hf : xs.filter (fun x => !p x) = L.take i := by
          have := DH.out.low
          rw [hj2, List.take_length] at this
          exact this.symm
        have hfl : (xs.filter (fun x => !p x)).length = i := by
          have := DH.out.hlow
          rw [hj2, List.take_length] at this
          exact this
        rw [hfl]
        refine ⟨rfl, ⟨by rw [hf]; simp; omega, ?_⟩, UH.out.trans (Upd.sets _ _ _) (fun k hk => .inl hk)⟩
        rcases SH.out.lies with ⟨q, _⟩ | ⟨g', cur, q1, q2, q3, q4, q5, q6, q7⟩
        · cases q
        · injection q1 with q1; injection q1 with q1; subst q1
          obtain ⟨cs', r1, r2, r3⟩ := Blk.sets (List.replicate (xs.length - i) (.int .i64 0)) i _ _ q3
          refine .inr ⟨g, cs', rfl, rfl, r1, by omega, hc, by omega, ?_⟩
          rw [hf, Nat.mul_one]
          apply List.ext_getElem?
          intro t
          by_cases ht : t < i
          · rw [List.getElem?_take, if_pos ht, List.getElem?_map, List.getElem?_take, if_pos ht, Array.getElem?_toList, r3 t ht]
            have := congrArg (fun l => l[t]?) q7
            simp only [List.getElem?_take, List.getElem?_map] at this
            rw [if_pos (by omega)] at this
            rw [← this]; simp
          · rw [List.getElem?_eq_none (by simp; omega), List.getElem?_eq_none (by simp; omega)]
end Go.Proofs.YbulkctquGreatFmt
