/-
  search, where the first order placed serves.
-/
import Derived.Test.YbulkctquGreatFmtTkD
import Derived.Test.YbulkctquGreatFmtCho
import Derived.Test.YbulkctquGreatFmtOrdC
import Derived.WalkSpells
namespace Go.Proofs.YbulkctquGreatFmt
open Go.ChangeShapes Go.WideShapes Go.ChangeAt Go.RowKit Go.Ord
set_option linter.unusedVariables false

theorem ne83n (w : World) (n c : Nat) : (binOp .neq 83 (.slice none n c) (.slice none 0 0)).run Ybaz.prog w = .ok (.bool false) w := run_neq_slice_nil_any w 83 3 none n c 0 0 Ybaz.underlying83
theorem upd_below {w w' : World} (h : Below w.heap.size w w') : Upd [] w w' := ⟨h.os, h.tape, h.output, h.size, fun k hk _ => h.block k hk⟩
/-- What search hands back. -/
def SeaPost (w : World) (P : List Nat → Prop) : Ending → World → Prop := fun e w' => ∃ (vP : SV) (D fP : List Nat), P D ∧ e = .returned (.tuple #[.slice vP.a vP.n vP.c, .bool true]) ∧ Sl w' 3 1 vP.a vP.n vP.c fP (D.map nI) ∧ (∀ k ∈ fP, w.heap.size ≤ k) ∧ Below w.heap.size w w'
set_option maxHeartbeats 4000000 in
set_option maxRecDepth 100000 in
theorem search21 (w : World) (d m bN bF : Nat) (hm : m ≤ 12) (g : GG) (G : List (List Nat)) (J : List Bool) (sg : SG) (ss : List Sr) (og : OG) (os : List Ob) (h : Poly d bN bF m g G J sg ss og os w) (τ : Nat → Nat) (hτ : ∀ u r, G[u]? = some r → ∀ x ∈ r, x < G.length ∧ τ u < τ x) (hl : G.length < 100000) (hwt : wt G < 1000000)
    (hos : ∀ o ∈ os, (∀ t ∈ o.wr, t < m) ∧ o.wr.Nodup ∧ o.wr.length ≤ m) (hss : ∀ s ∈ ss, s.wr < m ∧ (∀ t ∈ s.rd, t < m) ∧ s.rd ≠ [] ∧ s.rd.length ≤ m ∧ ∃ o, os[s.ob]? = some o ∧ s.wr ∈ o.wr) (hlo : os.length < 1000) (hls : ss.length < 1000)
    (PP : List Nat → Prop) (hPP : ∀ D, Trace G J D → (∀ x, x < G.length → x ∉ D → cnt G D x ≠ 0) → PP (D.filter (fun v => !juncAt J v)))
    (hP1 : ∀ P, PP P → P.Nodup ∧ (∀ x, x ∈ P ↔ x < m) ∧ ∀ (k : Nat) (s : Sr) (o : Ob) (t u : Nat), ss[k]? = some s → os[s.ob]? = some o → t ∈ s.rd → u ∈ o.wr → Befo P s.wr u → t = u ∨ Befo P t u) :
    Calls Ybaz.prog 21 #[.pointer (some ⟨d, 0, none⟩)] w (SeaPost w PP) := by
  have GR := h.gr.read
  have c6 := (h.cell (j := 6) rfl).1
  have hd : d < w.heap.size := World.block_lt_of_cell? _ _ c6
  have K45 : Hid (Calls Ybaz.prog 45 #[.pointer (some ⟨d, 0, none⟩)] w fun e w' => e = .returned (.slice none 0 0) ∧ Below w.heap.size w w') := choose45 w d G J GR c6 τ hτ hl hwt
  have HH : Hid _ := h
  have GRH : Hid _ := GR
  have HT : Hid (∀ u r, G[u]? = some r → ∀ x ∈ r, x < G.length ∧ τ u < τ x) := hτ
  have HOS : Hid (∀ o ∈ os, (∀ t ∈ o.wr, t < m) ∧ o.wr.Nodup ∧ o.wr.length ≤ m) := hos
  have HSS : Hid (∀ s ∈ ss, s.wr < m ∧ (∀ t ∈ s.rd, t < m) ∧ s.rd ≠ [] ∧ s.rd.length ≤ m ∧ ∃ o, os[s.ob]? = some o ∧ s.wr ∈ o.wr) := hss
  have HPP : Hid (∀ D, Trace G J D → (∀ x, x < G.length → x ∉ D → cnt G D x ≠ 0) → PP (D.filter (fun v => !juncAt J v))) := hPP
  have HP1 : Hid (∀ P, PP P → P.Nodup ∧ (∀ x, x ∈ P ↔ x < m) ∧ ∀ (k : Nat) (s : Sr) (o : Ob) (t u : Nat), ss[k]? = some s → os[s.ob]? = some o → t ∈ s.rd → u ∈ o.wr → Befo P s.wr u → t = u ∨ Befo P t u) := hP1
  have C6 : Hid (w.cell? ⟨d, 6, none⟩ = some (.slice none 0 0)) := c6
  have q83 := ne83n
  clear h GR hτ hos hss hPP hP1 c6
  go_enter Ybaz.func21, Ybaz.ntmps21
  go_wp2_with fail
  refine wp_loop_once ?_
  go_wp2_with fail
  refine Calls.mono K45.out ?_
  rintro e w1 ⟨rfl, B1⟩
  have B1H : Hid (Below w.heap.size w w1) := B1
  have GR1 : Hid _ := GRH.out.below B1
  clear B1 K45
  go_wp2_with fail
  refine Calls.mono (clone46 w1 d 2 G J GR1.out (by omega)) ?_
  rintro e w2 ⟨aS, kS, aJ, kJ, rfl, g1, g2, g3, g4, B2⟩
  have GB : Hid _ := g1.boxed g2 g3 g4
  have B2H : Hid (Below w.heap.size w w2) := B1H.out.trans (B2.mono B1H.out.size)
  have c62 : ∀ o', (w2.alloc o').cell? ⟨d, 6, none⟩ = some (.slice none 0 0) := fun o' => (Upd.alloc [] w2 o').cell ((B2H.out.cell hd).trans C6.out) (by simp)
  clear g1 g2 g3 g4 B2
  go_wp2_with fail
  refine wp_loop_once ?_
  go_wp2_with fail
  obtain ⟨W3, hW3⟩ : ∃ z : World, z = w2.alloc (.cells #[.slice aS G.length kS, .slice aJ G.length kJ] 88) := ⟨_, rfl⟩
  have U3 : Upd [] w2 W3 := by rw [hW3]; exact Upd.alloc _ _ _
  have B3H : Hid (Below w.heap.size w W3) := B2H.out.trans (U3.below B2H.out.size (by simp))
  rw [← hW3] at GB ⊢
  clear hW3 U3 c62
  refine Calls.mono (order47 W3 w2.heap.size 0 G J GB.out (by omega) (fun r hr x hx => by obtain ⟨u, hu⟩ := List.getElem?_of_mem hr; exact (HT.out u r hu x hx).1) hwt) ?_
  rintro e w4 ⟨vP, D, fP, rfl, tr, hcn, s1, s2, B4⟩
  have PD : Hid _ := HPP.out D tr hcn
  obtain ⟨p1, p2, p3⟩ := HP1.out _ PD.out
  have B4H : Hid (Below w.heap.size w w4) := B3H.out.trans (B4.mono B3H.out.size)
  have hlen : vP.n = (D.filter (fun v => !juncAt J v)).length := by have := s1.len; simp at this; omega
  have hu : Upd [] w4 w4 := Upd.refl _ _
  have S1 : Hid _ := s1
  have S2 : Hid (∀ k ∈ fP, W3.heap.size ≤ k) := s2
  have kp : ∀ {b j : Nat} {v : Value}, w.cell? ⟨b, j, none⟩ = some v → w4.cell? ⟨b, j, none⟩ = some v := fun {b j v} hv => (B4H.out.cell (World.block_lt_of_cell? _ _ hv)).trans hv
  have PY : Poly d bN bF m g G J sg ss og os w4 := Poly.keeps _ _ _ _ _ _ _ _ _ _ _ _ _ [] HH.out (upd_below B4H.out) (by simp)
  rw [hlen] at s1
  have K48 : Hid _ := takeUp48 w4 d m hm (some ⟨bN, 0, none⟩) m (PY.cell (j := 0) rfl).1 og os (PY.cell (j := 5) rfl).1 PY.ob sg ss (PY.cell (j := 4) rfl).1 PY.sr (PY.cell (j := 6) rfl).1 vP.a vP.c (D.filter (fun v => !juncAt J v)) fP s1 p1 p2 HOS.out HSS.out hlo hls p3
  have HL : Hid (vP.n = (D.filter (fun v => !juncAt J v)).length) := hlen
  rw [← hlen] at K48
  clear s1 s2 tr hcn p1 p2 p3 hlen hu kp PY B4
  go_wp2_with fail
  refine Calls.mono K48.out ?_
  rintro e w5 ⟨rfl, B5⟩
  have B5H : Hid (Below w4.heap.size w4 w5) := B5
  clear B5 K48
  go_wp2_with fail
  go_ret2
  refine ⟨vP, D.filter (fun v => !juncAt J v), fP, PD.out, rfl, ?_, ?_, B4H.out.trans (B5H.out.mono B4H.out.size)⟩
  · exact S1.out.keep (upd_below B5H.out) (by simp)
  · intro k hk
    have := S2.out k hk
    have := B3H.out.size
    omega
end Go.Proofs.YbulkctquGreatFmt
