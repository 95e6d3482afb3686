/-
  Names and lists of names: SessionTxnName, zzs4765ceq, nameNodes.
-/
import Derived.Test.YbulkctquGreatFmtNames
import Derived.BigQuiet
namespace Go.Proofs.YbulkctquGreatFmt
open Go.ChangeShapes Go.WideShapes Go.ChangeAt Go.RowKit Go.Ord
set_option linter.unusedVariables false

theorem ceq_same (w : World) (aA aB : Option Addr) (cA cB : Nat) (fA fB : List Nat) (A : List (List UInt8)) (hA : Sl w 9 1 aA A.length cA fA (A.map strV)) (hB : Sl w 9 1 aB A.length cB fB (A.map strV)) (hn : A.length < 1000000) :
    Calls Ybaz.prog 8 #[.slice aA A.length cA, .slice aB A.length cB] w fun e w' => e = .returned (.bool true) ∧ Below w.heap.size w w' := by
  have HA : Hid _ := hA
  have HB : Hid _ := hB
  clear hA hB
  go_enter Ybaz.func8, Ybaz.ntmps8
  go_wp2_with fail
  go_loopw [13] (fun t wr => ∃ k : Nat, k ≤ A.length ∧ t = .int .i64 k ∧ ∃ q, wr = w.drewN q) (fun i _ => A.length - (intOf i).toNat)
  case atStart => exact ⟨0, by omega, rfl, 0, rfl⟩
  case round =>
    obtain ⟨k, hk, rfl, q, rfl⟩ := hrel
    by_cases hlt : k < A.length
    · obtain ⟨x, hx⟩ := has_at A hlt
      have hx2 : (A.map strV)[k]? = some (strV x) := by simp [hx]
      obtain ⟨gA, eA, _, dA⟩ := HA.out.get hx2
      obtain ⟨gB, eB, _, dB⟩ := HB.out.get hx2
      subst eA eB
      clear hx hx2
      unfold strV at dA dB
      go_wp2_with (first | go_quiet (fail))
      exact ⟨⟨k + 1, by omega, by go_num, _, rfl⟩, by simp [intOf]; omega⟩
    · go_wp2_with fail
      go_ret
      exact ⟨rfl, rfl, rfl, rfl, Nat.le_refl _, fun _ _ => rfl⟩

theorem txnName (s k : Nat) (hs : s < 90) (hk : k < 90) (w : World) : Calls Ybaz.prog 12 #[.int .i64 s, .int .i64 k] w fun e w' => e = .returned (.string ⟨(nm s k).toArray⟩) ∧ w' = w := by
  have H1 : Hid (Calls Ybaz.prog 26 #[.int .i64 ((s : Int) + 1)] w fun e w' => e = .returned (.string ⟨(Lib.decDigits (s + 1)).toArray⟩) ∧ w' = w) := itoa (s + 1) (by omega) w
  have H2 : Hid (Calls Ybaz.prog 26 #[.int .i64 ((k : Int) + 1)] w fun e w' => e = .returned (.string ⟨(Lib.decDigits (k + 1)).toArray⟩) ∧ w' = w) := itoa (k + 1) (by omega) w
  have l1 := digits_le (s + 1) (by omega)
  have l2 := digits_le (k + 1) (by omega)
  generalize hd1 : Lib.decDigits (s + 1) = d1 at *
  generalize hd2 : Lib.decDigits (k + 1) = d2 at *
  have D1 : Hid _ := hd1
  have D2 : Hid _ := hd2
  clear hd1 hd2
  go_enter Ybaz.func12, Ybaz.ntmps12
  go_wp2_with fail
  refine H1.out.mono ?_
  rintro e w' ⟨rfl, rfl⟩
  go_wp2_with fail
  refine H2.out.mono ?_
  rintro e w' ⟨rfl, rfl⟩
  go_wp2_with fail
  go_ret
  refine ⟨?_, rfl⟩
  rw [nm, D1.out, D2.out]
  simp [ByteArray.ext_iff]

theorem mkStr : MakeOf Ybaz.prog 43 9 (.string ⟨#[]⟩) 1 16 := MakeOf.mk Ybaz.underlying43 info9
def nI (x : Nat) : Value := .int .i64 x
def nmsOf (names : List (List UInt8)) (ns : List Nat) : List (List UInt8) := ns.map (fun t => names.getD t [])

theorem nameNodes_any (w : World) (aA aB : Option Addr) (cA cB : Nat) (fA fB : List Nat) (A : List (List UInt8)) (B : List Nat) (hA : Sl w 9 1 aA A.length cA fA (A.map strV)) (hB : Sl w 3 1 aB B.length cB fB (B.map nI)) (hn : B.length < 1000000) (hb : ∀ t ∈ B, t < A.length) :
    Calls Ybaz.prog 19 #[.slice aA A.length cA, .slice aB B.length cB] w fun e w' => ∃ g c, e = .returned (.slice (some ⟨g, 0, none⟩) B.length c) ∧ Sl w' 9 1 (some ⟨g, 0, none⟩) B.length c [g] ((nmsOf A B).map strV) ∧ w.heap.size ≤ g ∧ Below w.heap.size w w' := by
  have HA : Hid _ := hA
  have HB : Hid _ := hB
  have Hb : Hid _ := hb
  clear hA hB hb
  have hm := mkStr.made B.length B.length (Nat.le_refl _) hn (by decide)
  go_enter Ybaz.func19, Ybaz.ntmps19
  go_wp2_with fail
  clear hm
  go_loopw [13] (fun t wr => ∃ k : Nat, k ≤ B.length ∧ t = .int .i64 k ∧ ∃ Y : List (List UInt8), Y.length = B.length ∧ Y.take k = nmsOf A (B.take k) ∧ Sl wr 9 1 (some ⟨w.heap.size, 0, none⟩) B.length B.length [w.heap.size] (Y.map strV) ∧ Below w.heap.size w wr) (fun i _ => B.length - (intOf i).toNat)
  case atStart =>
    refine ⟨0, by omega, rfl, List.replicate B.length [], by simp, by simp [nmsOf], ?_, (Below.refl _ _).alloc (Nat.le_refl _) _⟩
    have := Sl.made w 9 (.string ⟨#[]⟩) 1 B.length B.length (Nat.le_refl _) hn
    rw [Nat.mul_one] at this
    rw [List.map_replicate]
    rw [zeros_one _ rfl] at this ⊢
    exact this
  case round =>
    obtain ⟨k, hk, rfl, Y, hY, hY2, h2, h3⟩ := hrel
    have HY2 : Hid _ := hY2
    clear hY2
    have H2 : Hid _ := h2
    have H3 : Hid _ := h3
    clear h2 h3
    by_cases hlt : k < B.length
    · obtain ⟨t, ht⟩ := has_at B hlt
      have ht2 := Hb.out t (List.mem_of_getElem? ht)
      obtain ⟨x, hx⟩ := has_at A ht2
      obtain ⟨gB, eB, fB', dB⟩ := HB.out.get (j := k) (v := nI t) (by simp [ht])
      obtain ⟨gA, eA, fA', dA⟩ := HA.out.get (j := t) (v := strV x) (by simp [hx])
      subst eA eB
      have hgA : gA < w.heap.size := World.block_lt_of_cell? _ _ dA
      have hgB : gB < w.heap.size := World.block_lt_of_cell? _ _ dB
      have e1 := (H3.out.cell (p := ⟨gB, k, none⟩) hgB).trans dB
      have e2 := (H3.out.cell (p := ⟨gA, t, none⟩) hgA).trans dA
      obtain ⟨g, eg, _, hgs, e3, e4⟩ := H2.out.has (by omega)
      injection eg with eg
      injection eg with eg
      subst eg
      have e5 := e4 k
      obtain ⟨y, hy⟩ := has_at Y (show k < Y.length by omega)
      have e6 : wr.cell? ⟨w.heap.size, k, none⟩ = some (strV y) := by
        rw [e3 k (by omega)]
        simp [hy]
      clear hy
      unfold strV at e2
      unfold nI at e1
      clear dA dB e3 e4 fA' fB'
      have HX : Hid _ := hx
      have HT : Hid _ := ht
      clear hx ht
      go_wp2_with fail
      have s1 := H2.out.store k (strV x)
      rw [← List.map_set] at s1
      refine ⟨⟨k + 1, by omega, by go_num, Y.set k x, by simp [hY], ?_, s1, H3.out.setCell (p := ⟨w.heap.size, k, none⟩) (Nat.le_refl _) _⟩, by simp [intOf]; omega⟩
      have e7 : B.take (k + 1) = B.take k ++ [t] := by rw [List.take_add_one, HT.out]; rfl
      have e8 : (Y.set k x).take (k + 1) = Y.take k ++ [x] := by
        rw [List.take_add_one, List.getElem?_set_self (by omega), List.take_set_of_le (Nat.le_refl _)]; rfl
      rw [e7, e8, HY2.out]
      simp [nmsOf, HX.out]
    · have hk2 : k = B.length := by omega
      go_wp2_with fail
      go_ret
      refine ⟨w.heap.size, B.length, rfl, ?_, Nat.le_refl _, H3.out⟩
      have h5 := HY2.out
      rw [hk2, List.take_of_length_le (by omega), List.take_of_length_le (by omega)] at h5
      rw [← h5]
      exact H2.out
end Go.Proofs.YbulkctquGreatFmt
