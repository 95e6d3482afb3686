/-
  CertifySessions on any history: what it answers; the arcs' memory.
-/
import Derived.Test.YbulkctquGreatFmtCeB
import Derived.Test.YbulkctquGreatFmtCeP
import Derived.Test.YbulkctquGreatFmtMrP
import Derived.Test.YbulkctquGreatFmtRwQ
import Derived.Test.YbulkctquGreatFmtApp
namespace Go.Proofs.YbulkctquGreatFmt
open Go.ChangeShapes Go.WideShapes Go.ChangeAt Go.RowKit Go.Ord
set_option linter.unusedVariables false

/-- What versions, misread give (as VrPost, MrPost say). -/
def VrPostC (w : World) (hs : List (List Tx)) : Ending → World → Prop := fun r w' =>
  (∃ (b : Nat) (F : Nat → Option Wr), r = .returned (.tuple #[.map (some b), .nilIface]) ∧ MapAt w' (ik .u64) b (fun v => (F v).map Wr.val) ∧ w.heap.size ≤ b ∧ Below w.heap.size w w' ∧ WF hs F ∧ HOk hs) ∨
  (∃ (t : TypeId) (p : Addr), r = .returned (.tuple #[.map none, .iface t (.pointer (some p))]) ∧ Below w.heap.size w w' ∧ ¬ HOk hs)
def MrPostC (w : World) (hs : List (List Tx)) (F : Nat → Option Wr) : Ending → World → Prop := fun r w' =>
  (r = .returned (.pointer none) ∧ ROk hs ∧ RC hs F hs.length 0 0 ∧ Below w.heap.size w w') ∨
  (∃ (bM : Nat) (a b c f a' b' c' : Int), r = .returned (.pointer (some ⟨bM, 0, none⟩)) ∧ Blk w' bM 59 #[.int .i64 a, .int .i64 b, .int .i64 c, .int .u8 f, .int .i64 a', .int .i64 b', .int .i64 c'] ∧ w.heap.size ≤ bM ∧ Below w.heap.size w w' ∧
    ((∃ (s k e : Nat) (q : Wr), Unc hs F s k e q ∧ RC hs F s k e ∧ a = s ∧ b = k ∧ c = e ∧ f = 0 ∧ a' = q.s ∧ b' = q.k ∧ c' = q.e) ∨ RC hs F hs.length 0 0))
/-- The arcs that CertifySessions names. -/
def FaPostC (w : World) : Ending → World → Prop := fun e w' =>
  ∃ (k a b c a' b' c' : Int) (ptr : Option Addr), e = .returned (.agg #[.int .u8 k, .int .i64 a, .int .i64 b, .int .i64 c, .int .i64 a', .int .i64 b', .int .i64 c', .pointer ptr]) ∧ Below w.heap.size w w'
/-- What CertifySessions answers, on any history. -/
def CertPostR (w : World) (hs : List (List Tx)) : Ending → World → Prop := fun e w' =>
  (¬ HOk hs ∧ Below w.heap.size w w' ∧ ∃ (t : TypeId) (p : Addr), e = .returned (.tuple #[.agg #[.slice none 0 0, .slice none 0 0, .bool false, .slice none 0 0, .pointer none, .slice none 0 0, .slice none 0 0, .slice none 0 0], .iface t (.pointer (some p))])) ∨
  (HOk hs ∧ ∃ (F : Nat → Option Wr) (vA vB : SV), WF hs F ∧ Two w w' vA vB (allN 0 hs) (allA 0 hs) ∧
    ((∃ (bM : Nat) (a b c f a' b' c' : Int), e = .returned (.tuple #[.agg #[.slice vA.a vA.n vA.c, .slice vB.a vB.n vB.c, .bool false, .slice none 0 0, .pointer (some ⟨bM, 0, none⟩), .slice none 0 0, .slice none 0 0, .slice none 0 0], .nilIface]) ∧
        Blk w' bM 59 #[.int .i64 a, .int .i64 b, .int .i64 c, .int .u8 f, .int .i64 a', .int .i64 b', .int .i64 c'] ∧ w.heap.size ≤ bM ∧
        ((∃ (s k e : Nat) (q : Wr), Unc hs F s k e q ∧ RC hs F s k e ∧ a = s ∧ b = k ∧ c = e ∧ f = 0 ∧ a' = q.s ∧ b' = q.k ∧ c' = q.e) ∨ RC hs F hs.length 0 0)) ∨
     (RC hs F hs.length 0 0 ∧ ∃ (vO vC vR vK : SV), e = .returned (.tuple #[.agg #[.slice vA.a vA.n vA.c, .slice vB.a vB.n vB.c, .bool false, .slice vO.a vO.n vO.c, .pointer none, .slice vC.a vC.n vC.c, .slice vR.a vR.n vR.c, .slice vK.a vK.n vK.c], .nilIface])) ∨
     (RC hs F hs.length 0 0 ∧ ∃ (g c : Nat) (P : List Nat) (A : List Rk) (zs : List Nat) (NM : Nat × Nat → Option Nat) (vars vers : List Nat) (os : List Ob) (ss : List Sr) (fa : List Int) (ows G : List (List Nat)) (J : List Bool),
        e = .returned (.tuple #[.agg #[.slice vA.a vA.n vA.c, .slice vB.a vB.n vB.c, .bool true, .slice (some ⟨g, 0, none⟩) P.length c, .pointer none, .slice none 0 0, .slice none 0 0, .slice none 0 0], .nilIface]) ∧
        NP hs F A zs NM vars vers os ss fa ows G J ∧ POR hs A zs os ss P ∧ Sl w' 9 1 (some ⟨g, 0, none⟩) P.length c [g] ((nmsOf (nmsAt A zs A.length) P).map strV) ∧ w.heap.size ≤ g)))
theorem info102 : (Ybaz.prog.info? 102).map (fun i => (i.zero, i.size, i.bytes)) = some (some (.agg #[.int .u8 0, .int .i64 0, .int .i64 0, .int .i64 0, .int .i64 0, .int .i64 0, .int .i64 0, .pointer none]), 8, 64) := by kernel_rfl
theorem sl45 : SliceOf Ybaz.prog 45 102 8 64 := by
  obtain ⟨i, h1, h2, h3, h4⟩ := info_parts info102
  exact ⟨Ybaz.underlying45, i, _, h1, h2, h3, h4, rfl, by decide⟩
theorem bs45 (k a b c a' b' c' : Int) (p : Option Addr) (w : World) : (Instr.buildSlice 45 1 #[(0, .agg #[.int .u8 k, .int .i64 a, .int .i64 b, .int .i64 c, .int .i64 a', .int .i64 b', .int .i64 c', .pointer p])]).run Ybaz.prog w = .ok (.slice (some ⟨w.heap.size, 0, none⟩) 1 1) (w.alloc (.cells #[.int .u8 k, .int .i64 a, .int .i64 b, .int .i64 c, .int .i64 a', .int .i64 b', .int .i64 c', .pointer p] 102)) :=
  run_buildSlice_one Ybaz.underlying45 info102 (by decide) (by decide) _ _ (by kernel_rfl) w
theorem run_appended8 (W : World) (ao : Option Addr) (n cap : Nat) (fp : List Nat) (xs : List Value) (hs : Sl W 102 8 ao n cap fp xs) (k a b c a' b' c' : Int) (p : Option Addr) (hn : n < 1000000000) :
    ∃ g' cap' w', (Builtin.append_ #[45, 45] 45 #[.slice ao n cap, .slice (some ⟨W.heap.size, 0, none⟩) 1 1]).run Ybaz.prog (W.alloc (.cells #[.int .u8 k, .int .i64 a, .int .i64 b, .int .i64 c, .int .i64 a', .int .i64 b', .int .i64 c', .pointer p] 102)) = .ok (.slice (some ⟨g', 0, none⟩) (n + 1) cap') w' ∧ Sl w' 102 8 (some ⟨g', 0, none⟩) (n + 1) cap' [g'] (xs ++ [.int .u8 k, .int .i64 a, .int .i64 b, .int .i64 c, .int .i64 a', .int .i64 b', .int .i64 c', .pointer p]) ∧ Upd fp W w' ∧ (g' ∈ fp ∨ W.heap.size ≤ g') :=
  run_appended (P := Ybaz.prog) W (W.alloc (.cells #[.int .u8 k, .int .i64 a, .int .i64 b, .int .i64 c, .int .i64 a', .int .i64 b', .int .i64 c', .pointer p] 102)) 45 45 102 8 64 sl45 (by decide) ao n cap fp xs hs [.int .u8 k, .int .i64 a, .int .i64 b, .int .i64 c, .int .i64 a', .int .i64 b', .int .i64 c', .pointer p] rfl (by simp [Value.oneCell']) (by omega) (Upd.refl _ _)
theorem txsAt_full {A : List Rk} {zs : List Nat} (hp : zs.Perm (List.range A.length)) : txsAt A zs A.length = ats A zs := by
  have := hp.length_eq
  simp at this
  simp [txsAt, ats, this, List.take_of_length_le]
theorem TxsAt.cells {A : List Rk} {zs : List Nat} (hp : zs.Perm (List.range A.length)) {bT : Nat} {w : World} (h : TxsAt bT A.length (txsAt A zs A.length) w) {x : Nat} {p : Nat × Nat} (hx : (ats A zs)[x]? = some p) : w.cell? ⟨bT, x * 2, none⟩ = some (.int .i64 p.1) ∧ w.cell? ⟨bT, x * 2 + 1, none⟩ = some (.int .i64 p.2) := by
  have h' : Sl w 105 2 (some ⟨bT, 0, none⟩) A.length A.length [bT] ((txsAt A zs A.length).flatMap p2C) := h
  rw [txsAt_full hp] at h'
  have hxl : x < A.length := by have := (List.getElem?_eq_some_iff.mp hx).1; rw [ats_len hp] at this; exact this
  obtain ⟨gT, eT, eT3, ltT, cT, fT⟩ := h'.has (by omega)
  have eT2 : gT = bT := by
    injection eT with eT
    injection eT with eT
    exact eT.symm
  subst eT2
  have e := flat3 p2C 2 (fun _ => rfl) (ats A zs) x 0 p hx (by omega)
  rw [Nat.add_zero] at e
  exact ⟨by rw [cT (x * 2) (by omega), e]; rfl, by rw [cT (x * 2 + 1) (by omega), flat3 p2C 2 (fun _ => rfl) (ats A zs) x 1 p hx (by omega)]; rfl⟩
/-- One arc more. -/
theorem arcStep {wz w6 W9 : World} {bV : Nat} {vA vB vC vR : SV} {fR : List Nat} {xs : List Value} (S : Sl wz 102 8 vR.a vR.n vR.c fR xs) (F : ∀ k ∈ fR, W9.heap.size ≤ k)
    (B : Blk wz bV 47 #[.slice vA.a vA.n vA.c, .slice vB.a vB.n vB.c, .bool false, .slice none 0 0, .pointer none, .slice vC.a vC.n vC.c, .slice vR.a vR.n vR.c, .slice none 0 0]) (U : Upd [bV] W9 wz) (hV : bV < W9.heap.size) (U6 : Upd [] wz w6) (hn : vR.n < 1000000000) (k a b c a' b' c' : Int) (p : Option Addr) :
    ∃ g' cap' w7, (Builtin.append_ #[45, 45] 45 #[.slice vR.a vR.n vR.c, .slice (some ⟨w6.heap.size, 0, none⟩) 1 1]).run Ybaz.prog (w6.alloc (.cells #[.int .u8 k, .int .i64 a, .int .i64 b, .int .i64 c, .int .i64 a', .int .i64 b', .int .i64 c', .pointer p] 102)) = .ok (.slice (some ⟨g', 0, none⟩) (vR.n + 1) cap') w7 ∧
      w6.cell? ⟨bV, 6, none⟩ = some (.slice vR.a vR.n vR.c) ∧ w7.cell? ⟨bV, 6, none⟩ = some (.slice vR.a vR.n vR.c) ∧ w7.frozen? ⟨bV, 6, none⟩ = false ∧
      ∃ xs' : List Value, Sl (w7.setCell ⟨bV, 6, none⟩ (.slice (some ⟨g', 0, none⟩) (vR.n + 1) cap')) 102 8 (some ⟨g', 0, none⟩) (vR.n + 1) cap' [g'] xs' ∧ (∀ k ∈ [g'], W9.heap.size ≤ k) ∧
        Blk (w7.setCell ⟨bV, 6, none⟩ (.slice (some ⟨g', 0, none⟩) (vR.n + 1) cap')) bV 47 #[.slice vA.a vA.n vA.c, .slice vB.a vB.n vB.c, .bool false, .slice none 0 0, .pointer none, .slice vC.a vC.n vC.c, .slice (some ⟨g', 0, none⟩) (vR.n + 1) cap', .slice none 0 0] ∧
        Upd [bV] W9 (w7.setCell ⟨bV, 6, none⟩ (.slice (some ⟨g', 0, none⟩) (vR.n + 1) cap')) := by
  obtain ⟨g', cap', w7, h1, h2, h3, h4⟩ := run_appended8 w6 vR.a vR.n vR.c fR xs (S.keep U6 (by simp)) k a b c a' b' c' p hn
  have nV : bV ∉ fR := fun hm => by have := F _ hm; omega
  have B6 := B.keep U6 (by simp)
  have B7 := B6.keep h3 nV
  have hg : W9.heap.size ≤ g' := by
    rcases h4 with h | h
    · exact F _ h
    · have := U.size; have := U6.size; omega
  have st := Upd.store w7 bV 6 (.slice (some ⟨g', 0, none⟩) (vR.n + 1) cap')
  refine ⟨g', cap', w7, h1, B6.cell 6, B7.cell 6, B7.free 6, _, h2.keep st (fun q hq hm => ?_), fun q hq => by simp at hq; subst hq; exact hg, ?_, ?_⟩
  · simp at hq hm; omega
  · have := B7.store 6 (.slice (some ⟨g', 0, none⟩) (vR.n + 1) cap')
    simpa using this
  · exact ((U.trans U6 (by simp)).trans h3 (fun q hq => .inr (F q hq))).trans st (by simp)
end Go.Proofs.YbulkctquGreatFmt
