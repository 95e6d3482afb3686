/-
  newSessionPolygraph: its memory while it walks the events.
-/
import Derived.Test.YbulkctquGreatFmtNspG
namespace Go.Proofs.YbulkctquGreatFmt
open Go.ChangeShapes Go.WideShapes Go.ChangeAt Go.RowKit Go.Ord
set_option linter.unusedVariables false

def tmF (T : List Nat) : Nat → Option Value := fun y => if y ∈ T then some (.bool true) else none
abbrev LE (w : World) (top n cap : Nat) (A : List Rk) (fC : List Nat) (nV : Nat) (fV : List Nat) (bF : Nat) (zs : List Nat) (bN : Nat) (NS : List (List UInt8)) (g : GG) (G : List (List Nat)) (J : List Bool) (sg : SG) (ss : List Sr) (og : OG) (os : List Ob) (TX : List (Nat × Nat)) (NM : Nat × Nat → Option Nat) (bO : Nat) (om sm : Nat → Option Nat) (T : List Nat) : List Pc :=
  LB w top n cap A fC nV fV ++ [([bF], MarksAt bF A.length zs)] ++ [([bN], NamesAt bN A.length NS)] ++ [(polyFp (bN + 1) g sg og, Poly (bN + 1) bN bF A.length g G J sg ss og os)] ++ [([bN + 2], TxsAt (bN + 2) A.length TX)] ++ [([bN + 3], fun z => MapAt z k2 (bN + 3) (fun p => (NM p).map (ik .i64)))] ++
    [([bO], fun z => MapAt z (ik .u64) bO (fun y => (om y).map (ik .i64)))] ++ [([bO + 1], fun z => MapAt z (ik .u64) (bO + 1) (fun y => (sm y).map (ik .i64)))] ++ [([bO + 2], fun z => MapAt z (ik .u64) (bO + 2) (tmF T))]
def sg0 : SG := ⟨none, 0, [], [], []⟩
def og0 : OG := ⟨none, 0, [], [], []⟩
theorem Srcs.none (w : World) : Srcs w sg0 [] := ⟨Sl.empty _ _ _, Rws.empty w, by simp [sg0, SG.foot]⟩
theorem Objs.none (w : World) : Objs w og0 [] := ⟨Sl.empty _ _ _, Rws.empty w, by simp [og0, OG.foot]⟩
theorem LE.first {w wr : World} {top n cap : Nat} {A : List Rk} {fC : List Nat} {nV : Nat} {fV : List Nat} {bF : Nat} {zs : List Nat} {bN : Nat} {NS : List (List UInt8)} {g : GG} {G : List (List Nat)} {J : List Bool} {TX : List (Nat × Nat)} {NM : Nat × Nat → Option Nat}
    (h : Pcs w wr (LD w top n cap A fC nV fV bF zs bN NS g G J TX NM)) (hk : g.kc = kc0 bN bF A.length (.slice none 0 0) (.slice none 0 0)) :
    Pcs w (((wr.alloc (.map #[] 0)).alloc (.map #[] 0)).alloc (.map #[] 0)) (LE w top n cap A fC nV fV bF zs bN NS g G J sg0 [] og0 [] TX NM wr.heap.size (fun _ => none) (fun _ => none) []) := by
  have GR : Gr wr (bN + 1) 2 g G J := h.mem (i := 5) rfl
  have e0 : polyFp (bN + 1) g sg0 og0 = (bN + 1) :: g.foot := by simp [polyFp, sg0, og0, SG.foot, OG.foot]
  have PG : Poly (bN + 1) bN bF A.length g G J sg0 [] og0 [] wr := ⟨GR, Srcs.none wr, Objs.none wr, hk, by rw [e0]; exact GR.nd⟩
  have KP := Poly.keeps (bN + 1) bN bF A.length g G J sg0 [] og0 []
  rw [e0] at KP
  have q0 := h.conv (i := 5) rfl PG KP
  obtain ⟨x1, e1⟩ : ∃ z : World, z = wr.alloc (.map #[] 0) := ⟨_, rfl⟩
  obtain ⟨x2, e2⟩ : ∃ z : World, z = x1.alloc (.map #[] 0) := ⟨_, rfl⟩
  obtain ⟨x3, e3⟩ : ∃ z : World, z = x2.alloc (.map #[] 0) := ⟨_, rfl⟩
  have z1 : x1.heap.size = wr.heap.size + 1 := by rw [e1]; simp
  have z2 : x2.heap.size = wr.heap.size + 2 := by rw [e2]; simp [z1]
  have z3 : x3.heap.size = wr.heap.size + 3 := by rw [e3]; simp [z2]
  have u1 : Upd [] wr x1 := by rw [e1]; exact Upd.alloc _ _ _
  have u2 : Upd [] x1 x2 := by rw [e2]; exact Upd.alloc _ _ _
  have u3 : Upd [] x2 x3 := by rw [e3]; exact Upd.alloc _ _ _
  have m1 := MapAt.new wr (ik .u64)
  rw [← e1] at m1
  have m2 := MapAt.new x1 (ik .u64)
  rw [← e2, z1] at m2
  have m3 := MapAt.new x2 (ik .u64)
  rw [← e3, z2] at m3
  rw [← e1, ← e2, ← e3]
  have q1 := q0.add u1 (by simp) [wr.heap.size] (fun z => MapAt z (ik .u64) wr.heap.size (fun y => ((fun _ => none : Nat → Option Nat) y).map (ik .i64))) (m1.congr (fun _ => rfl)) (mapKeeps _ _ _) (by simp; omega) (by simp)
  have q2 := q1.add u2 (by simp) [wr.heap.size + 1] (fun z => MapAt z (ik .u64) (wr.heap.size + 1) (fun y => ((fun _ => none : Nat → Option Nat) y).map (ik .i64))) (m2.congr (fun _ => rfl)) (mapKeeps _ _ _) (by simp; omega) (by simp)
  have q3 := q2.add u3 (by simp) [wr.heap.size + 2] (fun z => MapAt z (ik .u64) (wr.heap.size + 2) (tmF [])) (m3.congr (fun _ => by simp [tmF])) (mapKeeps _ _ _) (by simp; omega) (by simp)
  show Pcs w x3 _
  unfold LE
  rw [e0]
  exact q3
end Go.Proofs.YbulkctquGreatFmt
