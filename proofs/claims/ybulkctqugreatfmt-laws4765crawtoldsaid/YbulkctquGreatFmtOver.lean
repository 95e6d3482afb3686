/-
  precedeOverwriters, walked.
-/
import Derived.Test.YbulkctquGreatFmtOverB
import Derived.Deep.RegionWith
import Derived.BigQuiet
import Derived.Lib.Walk
namespace Go.Proofs.YbulkctquGreatFmt
open Go.ChangeShapes Go.WideShapes Go.ChangeAt Go.RowKit Go.Ord
set_option linter.unusedVariables false

attribute [-go_sem] Go.Builtin.append_
theorem put_none (a : Act) (v : Value) : a.put none v = a := rfl
theorem upd_bel {w w' : World} (h : Below w.heap.size w w') : Upd [] w w' := ⟨h.os, h.tape, h.output, h.size, fun k hk _ => h.block k hk⟩
abbrev L1 (w : World) (fb cf n : Nat) (fa : List Int) (SA : Nat × Nat → Option Nat) (fp5 : List Nat) (R5 : List (List Nat)) (fp6 : List Nat) (R6 : List (List Nat)) : List Pc :=
  [([w.heap.size], CellIs w.heap.size (.slice (some ⟨fb, 0, none⟩) fa.length cf)), ([w.heap.size + 1], fun z => MapAt z k2 (w.heap.size + 1) (fun p => (SA p).map (ik .i64))), (fp5, Tab (w.heap.size + 2) n fp5 R5), (fp6, Tab (w.heap.size + 3) n fp6 R6)]
theorem L1.first (w : World) (fb cf n : Nat) (fa : List Int) (hn : n < 1000000) : Pcs w ((((w.alloc (.cells #[.slice (some ⟨fb, 0, none⟩) fa.length cf] 83)).alloc (.map #[] 0)).alloc (.cells (zeros (.slice none 0 0) n).toArray 83)).alloc (.cells (zeros (.slice none 0 0) n).toArray 83)) (L1 w fb cf n fa (fun _ => none) [w.heap.size + 2] (List.replicate n []) [w.heap.size + 3] (List.replicate n [])) := by
  obtain ⟨x1, e1⟩ : ∃ z : World, z = w.alloc (.cells #[.slice (some ⟨fb, 0, none⟩) fa.length cf] 83) := ⟨_, rfl⟩
  obtain ⟨x2, e2⟩ : ∃ z : World, z = x1.alloc (.map #[] 0) := ⟨_, rfl⟩
  obtain ⟨x3, e3⟩ : ∃ z : World, z = x2.alloc (.cells (zeros (.slice none 0 0) n).toArray 83) := ⟨_, rfl⟩
  obtain ⟨x4, e4⟩ : ∃ z : World, z = x3.alloc (.cells (zeros (.slice none 0 0) n).toArray 83) := ⟨_, rfl⟩
  have z1 : x1.heap.size = w.heap.size + 1 := by rw [e1]; simp
  have z2 : x2.heap.size = w.heap.size + 2 := by rw [e2]; simp [z1]
  have z3 : x3.heap.size = w.heap.size + 3 := by rw [e3]; simp [z2]
  have z4 : x4.heap.size = w.heap.size + 4 := by rw [e4]; simp [z3]
  have u1 : Upd [] w x1 := by rw [e1]; exact Upd.alloc _ _ _
  have u2 : Upd [] x1 x2 := by rw [e2]; exact Upd.alloc _ _ _
  have u3 : Upd [] x2 x3 := by rw [e3]; exact Upd.alloc _ _ _
  have u4 : Upd [] x3 x4 := by rw [e4]; exact Upd.alloc _ _ _
  have k1 : CellIs w.heap.size (.slice (some ⟨fb, 0, none⟩) fa.length cf) x1 := by rw [e1]; exact (Blk.new w #[.slice (some ⟨fb, 0, none⟩) fa.length cf] 83).cell 0
  have m2 := MapAt.new x1 k2
  rw [← e2, z1] at m2
  have t3 := Tab.made x2 n hn
  rw [← e3, z2] at t3
  have t4 := Tab.made x3 n hn
  rw [← e4, z3] at t4
  rw [← e1, ← e2, ← e3, ← e4]
  have p1 := (Pcs.start w).add u1 (by simp) [w.heap.size] _ k1 (CellIs.keeps _ _) (by simp; omega) (by simp)
  have p2 := p1.add u2 (by simp) [w.heap.size + 1] (fun z => MapAt z k2 (w.heap.size + 1) (fun p => ((fun _ => none : Nat × Nat → Option Nat) p).map (ik .i64))) (m2.congr (fun _ => rfl)) (mapKeeps _ _ _) (by simp; omega) (by simp)
  have p3 := p2.add u3 (by simp) [w.heap.size + 2] _ t3 (Tab.keeps _ _ _ _) (by simp; omega) (by simp)
  exact p3.add u4 (by simp) [w.heap.size + 3] _ t4 (Tab.keeps _ _ _ _) (by simp; omega) (by simp)

theorem q83n (w : World) (n c : Nat) : (binOp .eql 83 (.slice none n c) (.slice none 0 0)).run Ybaz.prog w = .ok (.bool true) w := Lib.run_eql_slice_nil w 83 3 none n c 0 0 Ybaz.underlying83
theorem q83s (w : World) (a : Addr) (n c : Nat) : (binOp .eql 83 (.slice (some a) n c) (.slice none 0 0)).run Ybaz.prog w = .ok (.bool false) w := Lib.run_eql_slice_nil w 83 3 (some a) n c 0 0 Ybaz.underlying83
theorem two2_first (w : World) (n : Nat) (hn : n < 1000000) : Two2 w.heap.size n ((((w.alloc (.cells (zeros (.int .i64 0) n).toArray 3)).alloc (.cells #[.slice (some ⟨w.heap.size, 0, none⟩) n n] 83)).alloc (.cells (zeros (.int .i64 0) n).toArray 3)).alloc (.cells #[.slice (some ⟨w.heap.size + 1 + 1, 0, none⟩) n n] 83)) (List.replicate n 0) (List.replicate n 0) := by
  have q1 := Sl.made w 3 (.int .i64 0) 1 n n (Nat.le_refl _) (by omega)
  have q2 := Sl.made ((w.alloc (.cells (zeros (.int .i64 0) n).toArray 3)).alloc (.cells #[.slice (some ⟨w.heap.size, 0, none⟩) n n] 83)) 3 (.int .i64 0) 1 n n (Nat.le_refl _) (by omega)
  rw [Nat.mul_one] at q1 q2
  have q3 := ((q1.keep (Upd.alloc [] _ (.cells #[.slice (some ⟨w.heap.size, 0, none⟩) n n] 83)) (by simp)).keep (Upd.alloc [] _ (.cells (zeros (.int .i64 0) n).toArray 3)) (by simp)).keep (Upd.alloc [] _ (.cells #[.slice (some ⟨w.heap.size + 1 + 1, 0, none⟩) n n] 83)) (by simp)
  have q4 := q2.keep (Upd.alloc [] _ (.cells #[.slice (some ⟨w.heap.size + 1 + 1, 0, none⟩) n n] 83)) (by simp)
  have e0 : zeros (.int .i64 0) n = (List.replicate n 0).map nI := by rw [zeros_one _ rfl, List.map_replicate]; rfl
  rw [e0] at q3 q4 ⊢
  refine ⟨q3, by simpa using q4, ?_, ?_⟩
  · have r := (Blk.new (w.alloc (.cells ((List.replicate n 0).map nI).toArray 3)) #[.slice (some ⟨w.heap.size, 0, none⟩) n n] 83)
    have r2 := ((r.keep (Upd.alloc [] _ (.cells ((List.replicate n 0).map nI).toArray 3)) (by simp)).keep (Upd.alloc [] _ (.cells #[.slice (some ⟨w.heap.size + 1 + 1, 0, none⟩) n n] 83)) (by simp)).cell 0
    simpa using r2
  · have r := (Blk.new (((w.alloc (.cells ((List.replicate n 0).map nI).toArray 3)).alloc (.cells #[.slice (some ⟨w.heap.size, 0, none⟩) n n] 83)).alloc (.cells ((List.replicate n 0).map nI).toArray 3)) #[.slice (some ⟨w.heap.size + 1 + 1, 0, none⟩) n n] 83).cell 0
    simpa using r
theorem zero3 (w : World) : (zeroValue 3).run Ybaz.prog w = .ok (.int .i64 0) w := by
  have h : (Ybaz.prog.info? 3).map (fun i => i.zero) = some (some (.int .i64 0)) := by kernel_rfl
  cases hq : Ybaz.prog.info? 3 with
  | none => rw [hq] at h; cases h
  | some i => rw [hq] at h; simp at h; simp [zeroValue, typeInfo, hq, h]
abbrev L3 (w : World) (fb cf n b11 b16 m : Nat) (fa : List Int) (SA : Nat × Nat → Option Nat) (fp5 : List Nat) (v5 : List SV) (R5 : List (List Nat)) (fp6 : List Nat) (v6 : List SV) (R6 : List (List Nat)) (fp11 : List Nat) (v11 : List SV) (R11 : List (List Nat)) (fp16 : List Nat) (ows : List (List Nat)) : List Pc :=
  L2 w fb cf n b11 fa SA fp5 v5 R5 fp6 v6 R6 fp11 v11 R11 ++ [(fp16, Tab b16 m fp16 ows)] ++ [([b16 + 1], CellIs (b16 + 1) (.slice (some ⟨b16, 0, none⟩) m m))]
abbrev L4 (w : World) (fb cf n b11 b16 b19 b20 m mo : Nat) (fa : List Int) (SA : Nat × Nat → Option Nat) (fp5 : List Nat) (v5 : List SV) (R5 : List (List Nat)) (fp6 : List Nat) (v6 : List SV) (R6 : List (List Nat)) (fp11 : List Nat) (v11 : List SV) (R11 : List (List Nat)) (fp16 : List Nat) (ows : List (List Nat)) (M19 M20 : List Nat) : List Pc :=
  L3 w fb cf n b11 b16 m fa SA fp5 v5 R5 fp6 v6 R6 fp11 v11 R11 fp16 ows ++ [([b19], MarksAt b19 mo M19)] ++ [([b20], MarksAt b20 n M20)]
set_option maxHeartbeats 16000000 in
set_option maxRecDepth 100000 in
theorem over39 (w : World) (d : Nat) (g : GG) (G : List (List Nat)) (J : List Bool) (h : Gr w d 2 g G J) (aN : Option Addr) (n cN : Nat) (cn : w.cell? ⟨d, 0, none⟩ = some (.slice aN n cN))
    (og : OG) (os : List Ob) (co : w.cell? ⟨d, 5, none⟩ = some (.slice og.a os.length og.c)) (hO : Objs w og os) (disO : ∀ k ∈ og.foot, k ∉ d :: g.foot)
    (sg : SG) (ss : List Sr) (cs : w.cell? ⟨d, 4, none⟩ = some (.slice sg.a ss.length sg.c)) (hS : Srcs w sg ss) (disS : ∀ k ∈ sg.foot, k ∉ d :: g.foot)
    (fb cf : Nat) (fa : List Int) (hfl : fa.length = ss.length) (hfa : ∀ (k : Nat) (i : Int), fa[k]? = some i → w.cell? ⟨fb, k, none⟩ = some (.int .i64 i) ∧ -1 ≤ i ∧ i < (n : Int))
    (hn : n ≤ G.length) (hn2 : n ≤ 50) (hss : ∀ s ∈ ss, s.ob < os.length ∧ s.wr < n ∧ (∀ t ∈ s.rd, t < n) ∧ s.rd.length ≤ n) (hos : ∀ o ∈ os, (∀ t ∈ o.wr, t < n) ∧ o.wr.Nodup ∧ o.wr.length ≤ n)
    (hl : os.length < 1000) (hls : ss.length < 1000) (hw : G.length + wt G + ss.length * 70000 + 70000 < 100000000) :
    Calls Ybaz.prog 39 #[.pointer (some ⟨d, 0, none⟩), .slice (some ⟨fb, 0, none⟩) fa.length cf] w fun e w' => e = .returned (.tuple #[]) ∧ ∃ g' ows, OWF ss os fa n ows ∧ Gr w' d 2 g' (overG G ss ows) (overJ J ss ows) ∧ Grew d w w' g g' := by
  have hd := h.lt
  have HG : Hid _ := h
  have HO : Hid _ := hO
  have HS : Hid _ := hS
  have DO : Hid (∀ k ∈ og.foot, k ∉ d :: g.foot) := disO
  have DS : Hid (∀ k ∈ sg.foot, k ∉ d :: g.foot) := disS
  have HSS : Hid (∀ s ∈ ss, s.ob < os.length ∧ s.wr < n ∧ (∀ t ∈ s.rd, t < n) ∧ s.rd.length ≤ n) := hss
  have HOS : Hid (∀ o ∈ os, (∀ t ∈ o.wr, t < n) ∧ o.wr.Nodup ∧ o.wr.length ≤ n) := hos
  have HFA : Hid (∀ (k : Nat) (i : Int), fa[k]? = some i → w.cell? ⟨fb, k, none⟩ = some (.int .i64 i) ∧ -1 ≤ i ∧ i < (n : Int)) := hfa
  have HFL : Hid (fa.length = ss.length) := hfl
  have hfl9 : fa.length < 1000 := by omega
  have HW : Hid _ := hw
  have CN : Hid (w.cell? ⟨d, 0, none⟩ = some (.slice aN n cN)) := cn
  have CO : Hid (w.cell? ⟨d, 5, none⟩ = some (.slice og.a os.length og.c)) := co
  have CS : Hid (w.cell? ⟨d, 4, none⟩ = some (.slice sg.a ss.length sg.c)) := cs
  have I0 : Hid _ := L1.first w fb cf n fa (by omega)
  have hd1 : d < w.heap.size + 1 := by omega
  have hd2 : d < w.heap.size + 1 + 1 := by omega
  have hd3 : d < w.heap.size + 1 + 1 + 1 := by omega
  have hm := mkRows.made n n (Nat.le_refl _) (by omega) (by decide)
  have hmm := fun (k : Nat) (w : World) => makeMap_hint (P := Ybaz.prog) Ybaz.underlying178 k w
  clear h hO hS disO disS hss hos hfa hfl hw
  go_enter Ybaz.func39, Ybaz.ntmps39
  go_wp2_with fail
  clear hmm hm
  obtain ⟨W4, hW4⟩ : ∃ z : World, z = ((((w.alloc (.cells #[.slice (some ⟨fb, 0, none⟩) fa.length cf] 83)).alloc (.map #[] 0)).alloc (.cells (zeros (.slice none 0 0) n).toArray 83)).alloc (.cells (zeros (.slice none 0 0) n).toArray 83)) := ⟨_, rfl⟩
  rw [← hW4] at I0 ⊢
  clear hW4 hd1 hd2 hd3 cn co cs
  rw [show w.heap.size + 1 + 1 + 1 = w.heap.size + 3 from rfl, show w.heap.size + 1 + 1 = w.heap.size + 2 from rfl]
  go_loopw [65] (fun t65 wr => ∃ (k : Nat) (SA : Nat × Nat → Option Nat) (fp5 fp6 : List Nat) (R5 R6 : List (List Nat)), k ≤ ss.length ∧ t65 = .int .i64 k ∧ Pcs w wr (L1 w fb cf n fa SA fp5 R5 fp6 R6) ∧ T5I ss k R5 ∧ T6I ss R6 ∧ SAI ss SA ∧ wt R6 ≤ k * 100) (fun u _ => ss.length - (intOf u).toNat)
  case atStart => exact ⟨0, _, _, _, _, _, by omega, rfl, I0.out, T5I.start ss n, T6I.start ss n, fun p k h => by simp at h, by simp [wt]⟩
  case round =>
    obtain ⟨k, SA, fp5, fp6, R5, R6, hk1, rfl, h1, h2, h3, h4, h5⟩ := hrel
    have P1 : Hid _ := h1
    have I5 : Hid (T5I ss k R5) := h2
    have I6 : Hid (T6I ss R6) := h3
    have IA : Hid (SAI ss SA) := h4
    clear h1 h2 h3 h4
    obtain ⟨wq, hwq⟩ : ∃ z : World, z = wr := ⟨_, rfl⟩
    subst hwq
    by_cases hlt : k < ss.length
    · as_aux_lemma =>
      obtain ⟨s, hs⟩ := has_at ss hlt
      obtain ⟨bS, v, f, eS, c0, c1, c2, c3, nv, lv, fv, _⟩ := HS.out.at hs
      obtain ⟨hs1, hs2, hs3, hs4⟩ := HSS.out s (List.mem_of_getElem? hs)
      have HSK : Hid (ss[k]? = some s) := hs
      have LV : Hid _ := lv
      have NV : Hid (v.n = s.rd.length) := nv
      have HS3 : Hid (∀ t ∈ s.rd, t < n) := hs3
      have hvn : v.n ≤ 50 := by omega
      rw [eS]
      have bel := P1.out.bel
      have e0 := (bel.cell (World.block_lt_of_cell? _ _ c0)).trans c0
      have e1 := (bel.cell (World.block_lt_of_cell? _ _ c1)).trans c1
      have e2 := (bel.cell (World.block_lt_of_cell? _ _ c2)).trans c2
      have e3 := (bel.cell (World.block_lt_of_cell? _ _ c3)).trans c3
      clear c0 c1 c2 c3 bel hs nv lv fv hs3
      have PA : Hid _ := P1.out.add (Upd.alloc [] wq (.cells #[.int .i64 s.ob, .int .i64 s.wr, .int .i64 s.rk, .slice v.a v.n v.c] 142)) (by simp) [wq.heap.size] (BlkIs wq.heap.size 142 #[.int .i64 s.ob, .int .i64 s.wr, .int .i64 s.rk, .slice v.a v.n v.c]) (Blk.new _ _ _) (BlkIs.keeps _ _ _) (by simp) (by simp)
      go_upto_region 8 with (at_mapUpdate; refine wpList_put rfl (.tmp 70) (.tmp 75) (.tmp 76) 178 rfl Ybaz.underlying178 key180 (w.heap.size + 1) _ (PA.out.mem (i := 1) rfl) (s.wr, s.ob) (.int .i64 k) rfl rfl rfl ?_; intro w2 m2 u2; have M2 : Hid _ := m2; have U2 : Hid _ := u2; clear m2 u2)
      rw [put_none]
      have PB : Hid (Pcs w w2 (L1 w fb cf n fa (fun p => if p = (s.wr, s.ob) then some k else SA p) fp5 R5 fp6 R6 ++ [([wq.heap.size], BlkIs wq.heap.size 142 #[.int .i64 s.ob, .int .i64 s.wr, .int .i64 s.rk, .slice v.a v.n v.c])])) := PA.out.put (i := 1) rfl U2.out (P' := fun z => MapAt z k2 (w.heap.size + 1) (fun p => ((fun p => if p = (s.wr, s.ob) then some k else SA p) p).map (ik .i64))) (M2.out.congr (fun p => by by_cases c : p = (s.wr, s.ob) <;> simp [c, ik])) (mapKeeps _ _ _) (fun x hx => ⟨.inl hx, by simp at hx; subst hx; exact M2.out.lt⟩) (by simp)
      have b8 : Blk w2 wq.heap.size 142 #[.int .i64 s.ob, .int .i64 s.wr, .int .i64 s.rk, .slice v.a v.n v.c] := PB.out.mem (i := 4) rfl
      have n1 : w2.cell? ⟨wq.heap.size, 1, none⟩ = some (.int .i64 s.wr) := b8.cell 1
      have T5 : Tab (w.heap.size + 2) n fp5 R5 w2 := PB.out.mem (i := 2) rfl
      obtain ⟨r5, hr5⟩ := has_at R5 (k := s.wr) (by rw [T5.len]; exact hs2)
      obtain ⟨sv, f5, q1, q2, q3, q4, q5, q6, q7, q8, q9⟩ := T5.at hr5
      have hsh := I5.out.short hr5
      have hn8 : Hid (wq.heap.size ∉ f5) := fun hm => PB.out.apart (i := 4) (j := 2) rfl rfl (by decide) wq.heap.size (by simp) (q6 _ hm)
      have hsn : sv.n < 1000000000000 := by omega
      have hlt8 : wq.heap.size < w2.heap.size := World.block_lt_of_cell? _ _ n1
      have hltb : w.heap.size + 2 < w2.heap.size := World.block_lt_of_cell? _ _ q1
      have Q4 : Hid _ := q4
      have Q5 : Hid (w.heap.size + 2 ∉ f5) := q5
      have Q9 : Hid _ := q9
      have HR5 : Hid (R5[s.wr]? = some r5) := hr5
      clear e0 e1 e2 e3 q3 q4 q5 q6 q7 q8 q9 T5 b8 hr5 hsh PA M2 U2
      go_cut [] (fun wx => ∃ fp5', Pcs w wx (L1 w fb cf n fa (fun p => if p = (s.wr, s.ob) then some k else SA p) fp5' (R5.set s.wr (r5 ++ [k])) fp6 R6 ++ [([wq.heap.size], BlkIs wq.heap.size 142 #[.int .i64 s.ob, .int .i64 s.wr, .int .i64 s.rk, .slice v.a v.n v.c])]))
      case first =>
        obtain ⟨gR, cR', w1, hrun, hS1, hU1, hF1⟩ := run_append_new w2 83 83 3 8 slInts (by decide) sv.a sv.n sv.c f5 (r5.map nI) Q4.out (.int .i64 k) rfl hsn
        have p0 := hU1.cell n1 (by simpa using hn8.out)
        have p2 := hU1.cell q1 (by simpa using Q5.out)
        have p3 := hU1.free hltb q2 (by simpa using Q5.out)
        have H1 : Hid _ := hS1
        have U1 : Hid _ := hU1
        have F1 : Hid _ := hF1
        clear hS1 hU1 hF1
        go_big_region
        all_goals go_wp2_with fail
        all_goals go_meet
        all_goals (
          obtain ⟨fp', t1, t2, t3⟩ := Q9.out gR cR' k w1 H1.out U1.out F1.out
          refine ⟨fp', ?_⟩
          have hz : w1.heap.size ≤ (w1.setCell ⟨w.heap.size + 2, s.wr, none⟩ (.slice (some ⟨gR, 0, none⟩) (sv.n + 1) cR')).heap.size := by simp [World.setCell]
          exact PB.out.put (i := 2) rfl t2 t1 (Tab.keeps _ _ _ _) (fun x hx => ⟨(t3 x hx).1, by have := (t3 x hx).2; omega⟩) t1.nd)
      case rest =>
        obtain ⟨fp5', h9⟩ := hcut
        have PC : Hid _ := h9
        have I5' : Hid (T5I ss (k + 1) (R5.set s.wr (r5 ++ [k]))) := I5.out.put HSK.out HR5.out
        have IA' : Hid (SAI ss (fun p => if p = (s.wr, s.ob) then some k else SA p)) := IA.out.put HSK.out
        clear h9 PB n1 q1 q2 Q4 Q5 Q9 hn8 hsn hlt8 hltb P1 I5 IA
        obtain ⟨R5', hR5'⟩ : ∃ z, z = R5.set s.wr (r5 ++ [k]) := ⟨_, rfl⟩
        obtain ⟨SA', hSA'⟩ : ∃ z : Nat × Nat → Option Nat, z = (fun p => if p = (s.wr, s.ob) then some k else SA p) := ⟨_, rfl⟩
        rw [← hR5', ← hSA'] at PC
        rw [← hR5'] at I5'
        rw [← hSA'] at IA'
        clear hR5' hSA' HR5
        obtain ⟨C8, hC8⟩ : ∃ z : Array Value, z = #[.int .i64 s.ob, .int .i64 s.wr, .int .i64 s.rk, .slice v.a v.n v.c] := ⟨_, rfl⟩
        rw [← hC8] at PC
        have b8 : Blk wc wq.heap.size 142 C8 := PC.out.mem (i := 4) rfl
        rw [hC8] at b8
        have n3 : wc.cell? ⟨wq.heap.size, 3, none⟩ = some (.slice v.a v.n v.c) := b8.cell 3
        clear b8
        have HC8 : Hid (C8[1]? = some (.int .i64 s.wr)) := by rw [hC8]; rfl
        clear hC8
        go_wp2_with fail
        clear n3
        go_loopw [92] (fun t92 wr => ∃ (j : Nat) (fp6 : List Nat) (R6 : List (List Nat)), j ≤ v.n ∧ t92 = .int .i64 j ∧ Pcs w wr (L1 w fb cf n fa SA' fp5' R5' fp6 R6 ++ [([wq.heap.size], BlkIs wq.heap.size 142 C8)]) ∧ T6I ss R6 ∧ wt R6 ≤ k * 100 + j) (fun u _ => v.n - (intOf u).toNat)
        case atStart => exact ⟨0, _, _, by omega, rfl, PC.out, I6.out, by omega⟩
        case round =>
          obtain ⟨j, fp6, R6, hj1, rfl, h1, h2, h3⟩ := hrel
          have PD : Hid _ := h1
          have J6 : Hid (T6I ss R6) := h2
          clear h1 h2
          by_cases hltj : j < v.n
          · as_aux_lemma =>
            obtain ⟨t, ht⟩ := has_at s.rd (k := j) (by rw [← NV.out]; exact hltj)
            have htn := HS3.out t (List.mem_of_getElem? ht)
            obtain ⟨b, eb, _, cb⟩ := (LV.out.keep (upd_bel PD.out.bel) (by simp)).get (j := j) (v := nI t) (by simp [ht])
            unfold nI at cb
            rw [eb]
            have b8 : Blk wr wq.heap.size 142 C8 := PD.out.mem (i := 4) rfl
            have n1 : wr.cell? ⟨wq.heap.size, 1, none⟩ = some (.int .i64 s.wr) := (b8.cell 1).trans HC8.out
            have T6 : Tab (w.heap.size + 3) n fp6 R6 wr := PD.out.mem (i := 3) rfl
            obtain ⟨r6, hr6⟩ := has_at R6 (k := t) (by rw [T6.len]; exact htn)
            obtain ⟨sv, f6, q1, q2, q3, q4, q5, q6, q7, q8, q9⟩ := T6.at hr6
            have hsh := row_wt R6 t r6 hr6
            have hn8 : Hid (wq.heap.size ∉ f6) := fun hm => PD.out.apart (i := 4) (j := 3) rfl rfl (by decide) wq.heap.size (by simp) (q6 _ hm)
            have hsn : sv.n < 1000000000000 := by omega
            have hlt8 : wq.heap.size < wr.heap.size := World.block_lt_of_cell? _ _ n1
            have hltb : w.heap.size + 3 < wr.heap.size := World.block_lt_of_cell? _ _ q1
            have Q4 : Hid _ := q4
            have Q5 : Hid (w.heap.size + 3 ∉ f6) := q5
            have Q9 : Hid _ := q9
            have K6 : Hid (T6I ss (R6.set t (r6 ++ [s.wr]))) := J6.out.put HSK.out (List.mem_of_getElem? ht) hr6
            have hwt := wt_set R6 t r6 (r6 ++ [s.wr]) hr6
            simp only [List.length_append, List.length_singleton] at hwt
            clear q3 q4 q5 q6 q7 q8 q9 T6 b8 hr6 hsh ht eb
            go_upto_region 12 with fail
            clear cb
            obtain ⟨gR, cR', w1, hrun, hS1, hU1, hF1⟩ := run_append_new wr 83 83 3 8 slInts (by decide) sv.a sv.n sv.c f6 (r6.map nI) Q4.out (.int .i64 s.wr) rfl hsn
            have p0 := hU1.cell n1 (by simpa using hn8.out)
            have p2 := hU1.cell q1 (by simpa using Q5.out)
            have p3 := hU1.free hltb q2 (by simpa using Q5.out)
            have H1 : Hid _ := hS1
            have U1 : Hid _ := hU1
            have F1 : Hid _ := hF1
            clear hS1 hU1 hF1
            go_big_region
            all_goals go_wp2_with fail
            all_goals (
              obtain ⟨fp', t1, t2, t3⟩ := Q9.out gR cR' s.wr w1 H1.out U1.out F1.out
              have hz : w1.heap.size ≤ (w1.setCell ⟨w.heap.size + 3, t, none⟩ (.slice (some ⟨gR, 0, none⟩) (sv.n + 1) cR')).heap.size := by simp [World.setCell]
              exact ⟨⟨j + 1, fp', _, by omega, by go_num, PD.out.put (i := 3) rfl t2 t1 (Tab.keeps _ _ _ _) (fun x hx => ⟨(t3 x hx).1, by have := (t3 x hx).2; omega⟩) t1.nd, K6.out, by omega⟩, by simp [intOf] <;> omega⟩)
          · have hj2 : j = v.n := by omega
            have hj3 : j ≤ 100 := by have := NV.out; omega
            clear hj2
            go_wp2_with fail
            exact ⟨⟨k + 1, SA', fp5', fp6, R5', R6, by omega, by go_num, PD.out.take 4, I5'.out, J6.out, IA'.out, by omega⟩, by simp [intOf] <;> omega⟩
    · as_aux_lemma =>
      have hk2 : k = ss.length := by omega
      have I5' : Hid (T5I ss ss.length R5) := by
        have := I5.out
        rw [hk2] at this
        exact this
      have hw6 : wt R6 ≤ 100000 := by omega
      have cn : wq.cell? ⟨d, 0, none⟩ = some (.slice aN n cN) := (P1.out.bel.cell hd).trans CN.out
      have co : wq.cell? ⟨d, 5, none⟩ = some (.slice og.a os.length og.c) := (P1.out.bel.cell hd).trans CO.out
      have hz1 := P1.out.bel.size
      have hdq : d < wq.heap.size := by omega
      have hm := mkRows.made n n (Nat.le_refl _) (by omega) (by decide)
      have P2 : Hid (Pcs w (wq.alloc (.cells (zeros (.slice none 0 0) n).toArray 83)) (L1 w fb cf n fa SA fp5 R5 fp6 R6 ++ [([wq.heap.size], Tab wq.heap.size n [wq.heap.size] (List.replicate n []))])) := P1.out.add (Upd.alloc [] _ _) (by simp) _ _ (Tab.made wq n (by omega)) (Tab.keeps _ _ _ _) (by simp) (by simp)
      clear h5 I5 hk2
      go_wp2_with fail
      clear hm cn co
      obtain ⟨W5, hW5⟩ : ∃ z : World, z = wq.alloc (.cells (zeros (.slice none 0 0) n).toArray 83) := ⟨_, rfl⟩
      obtain ⟨b11, hb11⟩ : ∃ z, z = wq.heap.size := ⟨_, rfl⟩
      rw [← hW5, ← hb11] at P2
      rw [← hW5, ← hb11]
      clear hW5 P1 hdq hz1 hb11
      go_loopw [120] (fun t120 wr => ∃ (x : Nat) (fp11 : List Nat) (R11 : List (List Nat)), x ≤ os.length ∧ t120 = .int .i64 x ∧ Pcs w wr (L1 w fb cf n fa SA fp5 R5 fp6 R6 ++ [(fp11, Tab b11 n fp11 R11)]) ∧ T11I os x [] R11) (fun u _ => os.length - (intOf u).toNat)
      case atStart => exact ⟨0, _, _, by omega, rfl, P2.out, T11I.start os n⟩
      case round =>
        obtain ⟨x, fp11, R11, hx1, rfl, h1, h2⟩ := hrel
        have P3 : Hid _ := h1
        have I11 : Hid (T11I os x [] R11) := h2
        clear h1 h2
        by_cases hltx : x < os.length
        · as_aux_lemma =>
          obtain ⟨ob, hob⟩ := has_at os hltx
          obtain ⟨bO, s0, s1, s2, f0, f1, eO, c0, c1, c2, n0, l0, m0, n1, l1, m1⟩ := HO.out.at hob
          obtain ⟨hwr, hnd, hwl⟩ := HOS.out ob (List.mem_of_getElem? hob)
          rw [eO]
          have bel := P3.out.bel
          have e0 := (bel.cell (World.block_lt_of_cell? _ _ c0)).trans c0
          have e1 := (bel.cell (World.block_lt_of_cell? _ _ c1)).trans c1
          have e2 := (bel.cell (World.block_lt_of_cell? _ _ c2)).trans c2
          have HWR : Hid (∀ t ∈ ob.wr, t < n) := hwr
          have HND : Hid (ob.wr.Nodup) := hnd
          have HOB : Hid (os[x]? = some ob) := hob
          have N0 : Hid (s0.n = ob.wr.length) := n0
          have L0 : Hid _ := l0
          have hs0 : s0.n ≤ 50 := by omega
          have P4 : Hid _ := P3.out.keep (Upd.alloc [] wr (.cells #[.slice s0.a s0.n s0.c, .slice s1.a s1.n s1.c, .slice s2.a s2.n s2.c] 139)) (by simp)
          clear c0 c1 c2 n0 l0 m0 n1 l1 m1 hwr hnd hob bel
          go_wp2_with fail
          clear e0 e1 e2
          go_loopw [128] (fun t128 wr => ∃ (j : Nat) (fp11 : List Nat) (R11 : List (List Nat)), j ≤ s0.n ∧ t128 = .int .i64 j ∧ Pcs w wr (L1 w fb cf n fa SA fp5 R5 fp6 R6 ++ [(fp11, Tab b11 n fp11 R11)]) ∧ T11I os x (ob.wr.take j) R11) (fun u _ => s0.n - (intOf u).toNat)
          case atStart => exact ⟨0, _, _, by omega, rfl, P4.out, by simpa using I11.out⟩
          case round =>
            obtain ⟨j, fp11, R11, hj1, rfl, h1, h2⟩ := hrel
            have P5 : Hid _ := h1
            have J11 : Hid (T11I os x (ob.wr.take j) R11) := h2
            clear h1 h2
            by_cases hltj : j < s0.n
            · as_aux_lemma =>
              obtain ⟨t, ht⟩ := has_at ob.wr (k := j) (by rw [← N0.out]; exact hltj)
              have htn := HWR.out t (List.mem_of_getElem? ht)
              obtain ⟨b, eb, _, cb⟩ := (L0.out.keep (upd_bel P5.out.bel) (by simp)).get (j := j) (v := nI t) (by simp [ht])
              unfold nI at cb
              rw [eb]
              have T11 : Tab b11 n fp11 R11 wr := P5.out.mem (i := 4) rfl
              obtain ⟨r11, hr11⟩ := has_at R11 (k := t) (by rw [T11.len]; exact htn)
              obtain ⟨sv, f11, q1, q2, q3, q4, q5, q6, q7, q8, q9⟩ := T11.at hr11
              have hsh := J11.out.short hr11
              have hsn : sv.n < 1000000000000 := by omega
              have hltb : b11 < wr.heap.size := World.block_lt_of_cell? _ _ q1
              have Q4 : Hid _ := q4
              have Q5 : Hid (b11 ∉ f11) := q5
              have Q9 : Hid _ := q9
              have tk : ob.wr.take (j + 1) = ob.wr.take j ++ [t] := by rw [List.take_add_one, ht]; rfl
              have K11 : Hid (T11I os x (ob.wr.take (j + 1)) (R11.set t (r11 ++ [x]))) := by
                show T11I os x (ob.wr.take (j + 1)) (R11.set t (r11 ++ [x]))
                rw [tk]
                refine J11.out.put HOB.out (List.mem_of_getElem? ht) (fun hm => ?_) hr11
                have := HND.out
                rw [← List.take_append_drop j ob.wr, List.nodup_append] at this
                refine this.2.2 t hm t ?_ rfl
                rw [drop_at ht]; simp
              clear q3 q4 q5 q6 q7 q8 q9 T11 hr11 hsh ht eb tk
              go_wp2_with (at_builtin; refine wpList_append_one wr _ (Upd.refl [] _) rfl (.tmp 137) (.tmp 139) 83 rfl 3 8 slInts (by decide) sv.a sv.n sv.c f11 (r11.map nI) rfl Q4.out (by simp) (nI x) rfl _ _ rfl (by simp) hsn ?_; intro gR cR' w1 hS1 hU1 hF1; go_loud (have p2 := hU1.cell q1 (by simpa using Q5.out)); go_loud (have p3 := hU1.free hltb q2 (by simpa using Q5.out)); have H1 : Hid _ := hS1; have U1 : Hid _ := hU1; have F1 : Hid _ := hF1; clear hS1 hU1 hF1)
              obtain ⟨fp', t1, t2, t3⟩ := Q9.out gR cR' x w1 H1.out U1.out F1.out
              have hz : w1.heap.size ≤ (w1.setCell ⟨b11, t, none⟩ (.slice (some ⟨gR, 0, none⟩) (sv.n + 1) cR')).heap.size := by simp [World.setCell]
              exact ⟨⟨j + 1, fp', _, by omega, by go_num, P5.out.put (i := 4) rfl t2 t1 (Tab.keeps _ _ _ _) (fun x hx => ⟨(t3 x hx).1, by have := (t3 x hx).2; omega⟩) t1.nd, K11.out⟩, by simp [intOf] <;> omega⟩
            · go_wp2_with fail
              exact ⟨⟨x + 1, fp11, R11, by omega, by go_num, P5.out, J11.out.next⟩, by simp [intOf] <;> omega⟩
        · as_aux_lemma =>
          have hx2 : x = os.length := by omega
          have J11 : Hid (T11I os os.length [] R11) := by
            have := I11.out
            rw [hx2] at this
            exact this
          clear I11 hx2
          obtain ⟨v5, hv5⟩ := (show Tab (w.heap.size + 2) n fp5 R5 wr from P3.out.mem (i := 2) rfl).told
          obtain ⟨v6, hv6⟩ := (show Tab (w.heap.size + 3) n fp6 R6 wr from P3.out.mem (i := 3) rfl).told
          obtain ⟨v11, hv11⟩ := (show Tab b11 n fp11 R11 wr from P3.out.mem (i := 4) rfl).told
          have P6 : Hid (Pcs w wr (L2 w fb cf n b11 fa SA fp5 v5 R5 fp6 v6 R6 fp11 v11 R11)) := ((P3.out.conv (i := 2) rfl hv5 (TabV.keeps _ _ _ _ _)).conv (i := 3) rfl hv6 (TabV.keeps _ _ _ _ _)).conv (i := 4) rfl hv11 (TabV.keeps _ _ _ _ _)
          clear P3 hv5 hv6 hv11
          obtain ⟨wq, hwq⟩ : ∃ z : World, z = wr := ⟨_, rfl⟩
          subst hwq
          have cs : wq.cell? ⟨d, 4, none⟩ = some (.slice sg.a ss.length sg.c) := (P6.out.bel.cell hd).trans CS.out
          have c3 : wq.cell? ⟨w.heap.size, 0, none⟩ = some (.slice (some ⟨fb, 0, none⟩) fa.length cf) := P6.out.mem (i := 0) rfl
          have b3lt := World.block_lt_of_cell? _ _ c3
          have hz1 := P6.out.bel.size
          have hdq : d < wq.heap.size := by omega
          have hm := mkRows.made ss.length ss.length (Nat.le_refl _) (by omega) (by decide)
          have P7 : Hid (Pcs w ((wq.alloc (.cells (zeros (.slice none 0 0) ss.length).toArray 83)).alloc (.cells #[.slice (some ⟨wq.heap.size, 0, none⟩) ss.length ss.length] 85)) (L2 w fb cf n b11 fa SA fp5 v5 R5 fp6 v6 R6 fp11 v11 R11 ++ [([wq.heap.size], Tab wq.heap.size ss.length [wq.heap.size] (List.replicate ss.length []))] ++ [([wq.heap.size + 1], CellIs (wq.heap.size + 1) (.slice (some ⟨wq.heap.size, 0, none⟩) ss.length ss.length))])) := by
            have p1 := P6.out.add (Upd.alloc [] _ _) (by simp) _ _ (Tab.made wq ss.length (by omega)) (Tab.keeps _ _ _ _) (by simp) (by simp)
            have b1 := Blk.new (wq.alloc (.cells (zeros (.slice none 0 0) ss.length).toArray 83)) #[.slice (some ⟨wq.heap.size, 0, none⟩) ss.length ss.length] 85
            simp only [World.size_alloc] at b1
            exact p1.add (Upd.alloc [] _ _) (by simp) [wq.heap.size + 1] (CellIs (wq.heap.size + 1) _) (b1.cell 0) (CellIs.keeps _ _) (by simp) (by simp)
          go_wp2_with fail
          clear hm cs c3 b3lt
          obtain ⟨W6, hW6⟩ : ∃ z : World, z = (wq.alloc (.cells (zeros (.slice none 0 0) ss.length).toArray 83)).alloc (.cells #[.slice (some ⟨wq.heap.size, 0, none⟩) ss.length ss.length] 85) := ⟨_, rfl⟩
          obtain ⟨b16, hb16⟩ : ∃ z, z = wq.heap.size := ⟨_, rfl⟩
          rw [← hW6, ← hb16] at P7
          rw [← hW6, ← hb16]
          clear hW6 P6 hdq hz1 hb16
          go_loopw [152] (fun t152 wr => ∃ (k : Nat) (fp16 : List Nat) (ows : List (List Nat)), k ≤ fa.length ∧ t152 = .int .i64 k ∧ Pcs w wr (L2 w fb cf n b11 fa SA fp5 v5 R5 fp6 v6 R6 fp11 v11 R11 ++ [(fp16, Tab b16 ss.length fp16 ows)] ++ [([b16 + 1], CellIs (b16 + 1) (.slice (some ⟨b16, 0, none⟩) ss.length ss.length))]) ∧ OW0 fa k ows) (fun u _ => fa.length - (intOf u).toNat)
          case atStart => exact ⟨0, _, _, by omega, rfl, P7.out, OW0.start fa ss.length⟩
          case round =>
            obtain ⟨k, fp16, ows, hk1, rfl, h1, h2⟩ := hrel
            have P8 : Hid _ := h1
            have I16 : Hid (OW0 fa k ows) := h2
            clear h1 h2
            by_cases hltk : k < fa.length
            · obtain ⟨i, hi⟩ := has_at fa hltk
              obtain ⟨cf1, cf2, cf3⟩ := HFA.out k i hi
              have cfw := (P8.out.bel.cell (World.block_lt_of_cell? _ _ cf1)).trans cf1
              clear cf1
              by_cases h0 : 0 ≤ i
              · as_aux_lemma =>
                obtain ⟨u, rfl⟩ : ∃ u : Nat, i = (u : Int) := ⟨i.toNat, by omega⟩
                have T16 : Tab b16 ss.length fp16 ows wr := P8.out.mem (i := 5) rfl
                have c16 : wr.cell? ⟨b16 + 1, 0, none⟩ = some (.slice (some ⟨b16, 0, none⟩) ss.length ss.length) := P8.out.mem (i := 6) rfl
                have hkm : k < ss.length := by rw [← HFL.out]; exact hltk
                obtain ⟨r, hr⟩ := has_at ows (k := k) (by rw [T16.len]; exact hkm)
                obtain ⟨sv, f, q1, q2, q3, q4, q5, q6, q7, q8, q9⟩ := T16.at hr
                have hrn : r.length ≤ 1 := by
                  rw [I16.out k r hr]
                  simp
                have hn16 : Hid (b16 + 1 ∉ f) := fun hm => P8.out.apart (i := 6) (j := 5) rfl rfl (by decide) (b16 + 1) (by simp) (q6 _ hm)
                have hsn : sv.n < 1000000000000 := by omega
                have hltb : b16 < wr.heap.size := World.block_lt_of_cell? _ _ q1
                have hltb2 : b16 + 1 < wr.heap.size := World.block_lt_of_cell? _ _ c16
                have Q4 : Hid _ := q4
                have Q5 : Hid (b16 ∉ f) := q5
                have Q9 : Hid _ := q9
                have K16 : Hid (OW0 fa (k + 1) (ows.set k (r ++ [u]))) := I16.out.put hi hr
                clear q3 q4 q5 q6 q7 q8 q9 T16 hr hrn hi cf2 cf3
                go_upto_region 30 with fail
                obtain ⟨gR, cR', w1, hrun, hS1, hU1, hF1⟩ := run_append_new wr 83 83 3 8 slInts (by decide) sv.a sv.n sv.c f (r.map nI) Q4.out (.int .i64 u) rfl hsn
                have p0 := hU1.cell c16 (by simpa using hn16.out)
                have p2 := hU1.cell q1 (by simpa using Q5.out)
                have p3 := hU1.free hltb q2 (by simpa using Q5.out)
                have H1 : Hid _ := hS1
                have U1 : Hid _ := hU1
                have F1 : Hid _ := hF1
                clear hS1 hU1 hF1
                go_big_region
                all_goals go_wp2_with fail
                all_goals (
                  obtain ⟨fp', t1, t2, t3⟩ := Q9.out gR cR' u w1 H1.out U1.out F1.out
                  have hz : w1.heap.size ≤ (w1.setCell ⟨b16, k, none⟩ (.slice (some ⟨gR, 0, none⟩) (sv.n + 1) cR')).heap.size := by simp [World.setCell]
                  exact ⟨⟨k + 1, fp', _, by omega, by go_num, P8.out.put (i := 5) rfl t2 t1 (Tab.keeps _ _ _ _) (fun x hx => ⟨(t3 x hx).1, by have := (t3 x hx).2; omega⟩) t1.nd, K16.out⟩, by simp [intOf] <;> omega⟩)
              · have K16 : Hid (OW0 fa (k + 1) ows) := I16.out.skip hi h0
                clear hi
                go_wp2_with fail
                exact ⟨⟨k + 1, fp16, ows, by omega, by go_num, P8.out, K16.out⟩, by simp [intOf] <;> omega⟩
            · as_aux_lemma =>
              have hk9 : k = fa.length := by omega
              have OW1 : Hid (OW ss os fa 0 (fun _ => False) ows) := by
                have T16 : Tab b16 ss.length fp16 ows wr := P8.out.mem (i := 5) rfl
                have := I16.out
                rw [hk9] at this
                exact this.done T16.len
              clear I16 hk9
              obtain ⟨wq, hwq⟩ : ∃ z : World, z = wr := ⟨_, rfl⟩
              subst hwq
              have co : wq.cell? ⟨d, 5, none⟩ = some (.slice og.a os.length og.c) := (P8.out.bel.cell hd).trans CO.out
              have cn : wq.cell? ⟨d, 0, none⟩ = some (.slice aN n cN) := (P8.out.bel.cell hd).trans CN.out
              have hz1 := P8.out.bel.size
              have hdq : d < wq.heap.size := by omega
              have hdq1 : d < wq.heap.size + 1 := by omega
              have hm := mkInts.made os.length os.length (Nat.le_refl _) (by omega) (by decide)
              have hm2 := mkInts.made n n (Nat.le_refl _) (by omega) (by decide)
              have P9 : Hid (Pcs w ((wq.alloc (.cells (zeros (.int .i64 0) os.length).toArray 3)).alloc (.cells (zeros (.int .i64 0) n).toArray 3)) (L3 w fb cf n b11 b16 ss.length fa SA fp5 v5 R5 fp6 v6 R6 fp11 v11 R11 fp16 ows ++ [([wq.heap.size], MarksAt wq.heap.size os.length (List.replicate os.length 0))] ++ [([wq.heap.size + 1], MarksAt (wq.heap.size + 1) n (List.replicate n 0))])) := by
                have p1 := P8.out.add (Upd.alloc [] _ _) (by simp) [wq.heap.size] _ (MarksAt.made wq os.length (by omega)) (MarksAt.keeps _ _ _) (by simp) (by simp)
                have m2 := MarksAt.made (wq.alloc (.cells (zeros (.int .i64 0) os.length).toArray 3)) n (by omega)
                simp only [World.size_alloc] at m2
                exact p1.add (Upd.alloc [] _ _) (by simp) [wq.heap.size + 1] _ m2 (MarksAt.keeps _ _ _) (by simp) (by simp)
              go_wp2_with fail
              clear hm hm2 co cn
              obtain ⟨W8, hW8⟩ : ∃ z : World, z = (wq.alloc (.cells (zeros (.int .i64 0) os.length).toArray 3)).alloc (.cells (zeros (.int .i64 0) n).toArray 3) := ⟨_, rfl⟩
              obtain ⟨b19, hb19⟩ : ∃ z, z = wq.heap.size := ⟨_, rfl⟩
              obtain ⟨b20, hb20⟩ : ∃ z, z = wq.heap.size + 1 := ⟨_, rfl⟩
              rw [← hW8, ← hb20, ← hb19] at P9
              rw [← hW8, ← hb20, ← hb19]
              have hb1920 : b19 ≠ b20 := by omega
              clear hW8 P8 hdq hdq1 hz1 hb19 hb20
              have MR : ∀ N, Marks N (0 + 1) (List.replicate N 0) [] := by
                intro N
                refine ⟨by simp, ?_⟩
                intro t v hv
                obtain ⟨_, rfl⟩ := List.mem_replicate.mp (List.mem_of_getElem? hv)
                simp
              go_loopw [188] (fun t188 wr => ∃ (u : Nat) (fp16 : List Nat) (ows : List (List Nat)) (M19 M20 : List Nat), u ≤ n ∧ t188 = .int .i64 u ∧ Pcs w wr (L4 w fb cf n b11 b16 b19 b20 ss.length os.length fa SA fp5 v5 R5 fp6 v6 R6 fp11 v11 R11 fp16 ows M19 M20) ∧ OW ss os fa u (fun _ => False) ows ∧ Marks os.length (u + 1) M19 [] ∧ Marks n (u + 1) M20 []) (fun u _ => n - (intOf u).toNat)
              case atStart => exact ⟨0, _, _, _, _, by omega, rfl, P9.out, OW1.out, MR _, MR _⟩
              case round =>
                obtain ⟨u, fp16, ows, M19, M20, hu1, rfl, h1, h2, h3, h4⟩ := hrel
                have P10 : Hid _ := h1
                have O10 : Hid _ := h2
                have K19 : Hid _ := h3
                have K20 : Hid _ := h4
                clear h1 h2 h3 h4
                by_cases hltu : u < n
                · as_aux_lemma =>
                  have T11 : TabV b11 n fp11 v11 R11 wr := P10.out.mem (i := 4) rfl
                  obtain ⟨s11, r11, hs11, hr11⟩ := T11.has hltu
                  obtain ⟨c11, n11, _, _⟩ := T11.get hs11 hr11
                  have S11 : Hid (v11[u]? = some s11) := hs11
                  have R11' : Hid (R11[u]? = some r11) := hr11
                  have N11 : Hid (s11.n = r11.length) := n11
                  have h11s := J11.out.short hr11
                  have hn11 : s11.n ≤ 1001 := by omega
                  clear hs11 hr11 n11 T11 h11s
                  go_wp2_with fail
                  clear c11
                  go_loopw [196] (fun t196 wr => ∃ (j : Nat) (M19 : List Nat), j ≤ s11.n ∧ t196 = .int .i64 j ∧ Pcs w wr (L4 w fb cf n b11 b16 b19 b20 ss.length os.length fa SA fp5 v5 R5 fp6 v6 R6 fp11 v11 R11 fp16 ows M19 M20) ∧ Marks os.length (u + 1) M19 (r11.take j)) (fun u _ => s11.n - (intOf u).toNat)
                  case atStart => exact ⟨0, M19, by omega, rfl, P10.out, by simpa using K19.out⟩
                  case round =>
                    obtain ⟨j, M19, hj1, rfl, h1, h2⟩ := hrel
                    have P11 : Hid _ := h1
                    have Q19 : Hid _ := h2
                    clear h1 h2
                    by_cases hltj : j < s11.n
                    · as_aux_lemma =>
                      obtain ⟨x, hx⟩ := has_at r11 (k := j) (by rw [← N11.out]; exact hltj)
                      have T11 : TabV b11 n fp11 v11 R11 wr := P11.out.mem (i := 4) rfl
                      obtain ⟨b, eb, cb⟩ := T11.num S11.out R11'.out hx
                      have hxo : x < os.length := by
                        obtain ⟨⟨o, ho, _⟩, _⟩ := (J11.out u r11 R11'.out).2 x (List.mem_of_getElem? hx)
                        exact (List.getElem?_eq_some_iff.mp ho).1
                      have A19 : MarksAt b19 os.length M19 wr := P11.out.mem (i := 7) rfl
                      obtain ⟨v0, hv0⟩ := has_at M19 (k := x) (by rw [Q19.out.len]; exact hxo)
                      obtain ⟨cm, zm⟩ := A19.get hv0
                      have tk := take_snoc hx
                      have K' : Hid (Marks os.length (u + 1) (M19.set x (u + 1)) (r11.take (j + 1))) := by
                        show Marks os.length (u + 1) (M19.set x (u + 1)) (r11.take (j + 1))
                        rw [tk]; exact Q19.out.put x hxo
                      have P' : Hid (Pcs w (wr.setCell ⟨b19, x, none⟩ (.int .i64 ((u + 1 : Nat) : Int))) (L4 w fb cf n b11 b16 b19 b20 ss.length os.length fa SA fp5 v5 R5 fp6 v6 R6 fp11 v11 R11 fp16 ows (M19.set x (u + 1)) M20)) := P11.out.put (i := 7) rfl (Upd.store _ _ _ _) (A19.set x (u + 1)) (MarksAt.keeps _ _ _) (fun y hy => ⟨.inl hy, by simp at hy; subst hy; have := World.block_lt_of_cell? _ _ cm; simpa [World.setCell] using this⟩) (by simp)
                      rw [eb]
                      clear hx T11 eb A19 hv0 tk
                      go_wp2_with fail
                      exact ⟨⟨j + 1, _, by omega, by go_num, P'.out, K'.out⟩, by simp [intOf] <;> omega⟩
                    · as_aux_lemma =>
                      have hj2 : j = s11.n := by omega
                      have Q19' : Hid (Marks os.length (u + 1) M19 r11) := by
                        have := Q19.out
                        rw [hj2, N11.out, List.take_length] at this
                        exact this
                      have T6 : TabV (w.heap.size + 3) n fp6 v6 R6 wr := P11.out.mem (i := 3) rfl
                      obtain ⟨s6, r6, hs6, hr6⟩ := T6.has hltu
                      obtain ⟨c6, n6, _, _⟩ := T6.get hs6 hr6
                      have S6 : Hid (v6[u]? = some s6) := hs6
                      have R6' : Hid (R6[u]? = some r6) := hr6
                      have N6 : Hid (s6.n = r6.length) := n6
                      have h6s := row_wt R6 u r6 hr6
                      have hn6 : s6.n ≤ 100000 := by omega
                      clear hs6 hr6 n6 T6 h6s hj2 Q19
                      go_wp2_with fail
                      clear c6
                      go_loopw [211] (fun t211 wr => ∃ (j : Nat) (fp16 : List Nat) (ows : List (List Nat)) (M20 seen : List Nat), j ≤ s6.n ∧ t211 = .int .i64 j ∧ Pcs w wr (L4 w fb cf n b11 b16 b19 b20 ss.length os.length fa SA fp5 v5 R5 fp6 v6 R6 fp11 v11 R11 fp16 ows M19 M20) ∧ OW ss os fa u (Seen ss seen) ows ∧ Marks n (u + 1) M20 seen) (fun u _ => s6.n - (intOf u).toNat)
                      case atStart => exact ⟨0, fp16, ows, M20, [], by omega, rfl, P11.out, O10.out.mono (fun j h => h.elim), K20.out⟩
                      case round =>
                        obtain ⟨j, fp16, ows, M20, seen, hj1, rfl, h1, h2, h3⟩ := hrel
                        have P12 : Hid _ := h1
                        have O12 : Hid _ := h2
                        have Q20 : Hid _ := h3
                        clear h1 h2 h3
                        by_cases hltj : j < s6.n
                        · as_aux_lemma =>
                          obtain ⟨t, ht⟩ := has_at r6 (k := j) (by rw [← N6.out]; exact hltj)
                          have T6 : TabV (w.heap.size + 3) n fp6 v6 R6 wr := P12.out.mem (i := 3) rfl
                          obtain ⟨b, eb, cb⟩ := T6.num S6.out R6'.out ht
                          obtain ⟨k', s', hk', hw', hu'⟩ := I6.out u r6 R6'.out t (List.mem_of_getElem? ht)
                          have htn : t < n := by have := (HSS.out s' (List.mem_of_getElem? hk')).2.1; omega
                          have KP : Hid (ss[k']? = some s' ∧ s'.wr = t ∧ u ∈ s'.rd) := ⟨hk', hw', hu'⟩
                          have A20 : MarksAt b20 n M20 wr := P12.out.mem (i := 8) rfl
                          obtain ⟨v0, hv0⟩ := has_at M20 (k := t) (by rw [Q20.out.len]; exact htn)
                          obtain ⟨cm, zm⟩ := A20.get hv0
                          have mk := Q20.out.le t v0 hv0
                          rw [eb]
                          by_cases hv : v0 = u + 1
                          · subst hv
                            clear ht T6 eb hk' hw' hu' A20 hv0 mk
                            go_wp2_with fail
                            exact ⟨⟨j + 1, fp16, ows, M20, seen, by omega, by go_num, P12.out, O12.out, Q20.out⟩, by simp [intOf] <;> omega⟩
                          · have hts : Hid (t ∉ seen) := fun hm => hv (mk.2.mpr hm)
                            have hv9 : ¬ ((v0 : Int) = (u : Int) + 1) := by omega
                            have hvb : ((v0 : Int) == (u : Int) + 1) = false := by simp [hv9]
                            have P13 : Hid (Pcs w (wr.setCell ⟨b20, t, none⟩ (.int .i64 ((u : Int) + 1))) (L4 w fb cf n b11 b16 b19 b20 ss.length os.length fa SA fp5 v5 R5 fp6 v6 R6 fp11 v11 R11 fp16 ows M19 (M20.set t (u + 1)))) := P12.out.put (i := 8) rfl (Upd.store _ _ _ _) (A20.set t (u + 1)) (MarksAt.keeps _ _ _) (fun y hy => ⟨.inl hy, by simp at hy; subst hy; have := World.block_lt_of_cell? _ _ cm; simpa [World.setCell] using this⟩) (by simp)
                            have Q20' : Hid (Marks n (u + 1) (M20.set t (u + 1)) (seen ++ [t])) := Q20.out.put t htn
                            obtain ⟨M20', hM20'⟩ : ∃ z, z = M20.set t (u + 1) := ⟨_, rfl⟩
                            rw [← hM20'] at P13 Q20'
                            clear hM20' ht T6 eb hk' hw' hu' A20 hv0 mk hv P12 Q20
                            go_upto_region 48 with fail
                            clear cb cm zm hv9 hvb
                            obtain ⟨wz, hwz⟩ : ∃ z : World, z = wr.setCell ⟨b20, t, none⟩ (.int .i64 ((u : Int) + 1)) := ⟨_, rfl⟩
                            rw [← hwz] at P13
                            rw [← hwz]
                            clear hwz
                            have T5 : TabV (w.heap.size + 2) n fp5 v5 R5 wz := P13.out.mem (i := 2) rfl
                            have T11 : TabV b11 n fp11 v11 R11 wz := P13.out.mem (i := 4) rfl
                            obtain ⟨s5, r5, hs5, hr5⟩ := T5.has htn
                            obtain ⟨c5, n5, _, _⟩ := T5.get hs5 hr5
                            obtain ⟨c11, n11, _, _⟩ := T11.get S11.out R11'.out
                            have S5 : Hid (v5[t]? = some s5) := hs5
                            have R5' : Hid (R5[t]? = some r5) := hr5
                            have N5 : Hid (s5.n = r5.length) := n5
                            have h5s := I5'.out.short hr5
                            have hn5 : s5.n ≤ 1000 := by omega
                            clear hs5 hr5 n5 T5 T11 h5s n11
                            by_cases hle : s5.n ≤ s11.n
                            · as_aux_lemma =>
                              have hle9 : (s5.n : Int) ≤ (s11.n : Int) := by omega
                              go_big_quiet (fail)
                              obtain ⟨wy, hwy⟩ : ∃ z : World, z = wz.drewN nq := ⟨_, rfl⟩
                              have P14 : Hid _ := P13.out.keep (Upd.drewN [] wz nq) (by simp)
                              have c5' : wy.cell? ⟨w.heap.size + 2, t, none⟩ = some (.slice s5.a s5.n s5.c) := by rw [hwy]; exact c5
                              rw [← hwy] at P14 ⊢
                              clear hwy c5 c11 P13
                              go_wp2_with fail
                              clear c5'
                              go_loopw [243] (fun t243 wr => ∃ (i : Nat) (fp16 : List Nat) (ows : List (List Nat)), i ≤ s5.n ∧ t243 = .int .i64 i ∧ Pcs w wr (L4 w fb cf n b11 b16 b19 b20 ss.length os.length fa SA fp5 v5 R5 fp6 v6 R6 fp11 v11 R11 fp16 ows M19 M20') ∧ OW ss os fa u (fun k => Seen ss seen k ∨ k ∈ r5.take i) ows) (fun u _ => s5.n - (intOf u).toNat)
                              case atStart => exact ⟨0, fp16, ows, by omega, rfl, P14.out, O12.out.mono (fun k h => .inl h)⟩
                              case round =>
                                obtain ⟨i, fp16, ows, hi1, rfl, h1, h2⟩ := hrel
                                have P15 : Hid _ := h1
                                have O15 : Hid _ := h2
                                clear h1 h2
                                by_cases hlti : i < s5.n
                                · obtain ⟨k, hk⟩ := has_at r5 (k := i) (by rw [← N5.out]; exact hlti)
                                  have T5 : TabV (w.heap.size + 2) n fp5 v5 R5 wr := P15.out.mem (i := 2) rfl
                                  obtain ⟨b, eb, cb⟩ := T5.num S5.out R5'.out hk
                                  obtain ⟨s, hs, hsw, hnt⟩ := I5'.out.tells R5'.out hk
                                  have hkm := (List.getElem?_eq_some_iff.mp hs).1
                                  have hob := (HSS.out s (List.mem_of_getElem? hs)).1
                                  obtain ⟨bS, v, f, eS, d0, _, _, _, _, _, _, _⟩ := HS.out.at hs
                                  have d0' := (P15.out.bel.cell (World.block_lt_of_cell? _ _ d0)).trans d0
                                  have d4 : wr.cell? ⟨d, 4, none⟩ = some (.slice sg.a ss.length sg.c) := (P15.out.bel.cell hd).trans CS.out
                                  rw [eS] at d4
                                  have A19 : MarksAt b19 os.length M19 wr := P15.out.mem (i := 7) rfl
                                  obtain ⟨v1, hv1⟩ := has_at M19 (k := s.ob) (by rw [Q19'.out.len]; exact hob)
                                  obtain ⟨cm, zm⟩ := A19.get hv1
                                  have mk := Q19'.out.le s.ob v1 hv1
                                  have tk := take_snoc hk
                                  rw [eb]
                                  by_cases hv : v1 = u + 1
                                  · as_aux_lemma =>
                                    obtain ⟨⟨o, ho, huo⟩, _⟩ := (J11.out u r11 R11'.out).2 s.ob (mk.2.mp hv)
                                    have hgood : good ss os k u := ⟨s, o, hs, ho, huo, k', s', KP.out.1, KP.out.2.1.trans hsw.symm, KP.out.2.2⟩
                                    have T16 : Tab b16 ss.length fp16 ows wr := P15.out.mem (i := 5) rfl
                                    obtain ⟨r, hr⟩ := has_at ows (k := k) (by rw [T16.len]; exact hkm)
                                    obtain ⟨i0, hi0⟩ := has_at fa (k := k) (by rw [HFL.out]; exact hkm)
                                    have hfc := HFA.out k i0 hi0
                                    have hfc' := (P15.out.bel.cell (World.block_lt_of_cell? _ _ hfc.1)).trans hfc.1
                                    have hnP : ¬ (Seen ss seen k ∨ k ∈ r5.take i) := by
                                      rintro (⟨s2, g1, g2⟩ | g)
                                      · rw [hs] at g1; cases g1
                                        rw [hsw] at g2; exact hts.out g2
                                      · exact hnt g
                                    have ON : Hid (OW ss os fa u (fun k => Seen ss seen k ∨ k ∈ r5.take (i + 1)) (if i0 = (u : Int) then ows else ows.set k (r ++ [u]))) := by
                                      show OW ss os fa u (fun k => Seen ss seen k ∨ k ∈ r5.take (i + 1)) (if i0 = (u : Int) then ows else ows.set k (r ++ [u]))
                                      have up : ∀ j, (Seen ss seen j ∨ j ∈ r5.take i) → (Seen ss seen j ∨ j ∈ r5.take (i + 1)) := by
                                        intro j hj
                                        rw [tk]
                                        rcases hj with hj | hj
                                        · exact .inl hj
                                        · exact .inr (by simp [hj])
                                      split
                                      · exact O15.out.mono up
                                      · exact O15.out.add hr hnP hgood up (.inr (by rw [tk]; simp))
                                    have hrl := O15.out.short hr
                                    have HC : Hid (Calls Ybaz.prog 62 #[.int .i64 k, .int .i64 u, .pointer (some ⟨w.heap.size, 0, none⟩), .pointer (some ⟨b16 + 1, 0, none⟩)] wr fun e w' => e = .returned (.tuple #[]) ∧ ∃ fp', Pcs w w' (L4 w fb cf n b11 b16 b19 b20 ss.length os.length fa SA fp5 v5 R5 fp6 v6 R6 fp11 v11 R11 fp' (if i0 = (u : Int) then ows else ows.set k (r ++ [u])) M19 M20')) := add62 w wr _ P15.out w.heap.size (b16 + 1) b16 fb cf ss.length 0 6 5 fa fp16 ows rfl rfl rfl (by decide) k u i0 r hi0 hfc' hr (by omega)
                                    subst hv
                                    clear T5 A19 hv1 mk tk hgood T16 hr hi0 hfc hfc' hnP hrl hs hsw hnt hk ho huo eb eS d0
                                    go_wp2_with fail
                                    refine HC.out.mono ?_
                                    rintro e w2 ⟨rfl, fp', p9⟩
                                    have P16 : Hid _ := p9
                                    clear p9
                                    go_wp2_with fail
                                    exact ⟨⟨i + 1, fp', _, by omega, by go_num, P16.out, ON.out⟩, by simp [intOf] <;> omega⟩
                                  · have hv9 : ¬ ((v1 : Int) = (u : Int) + 1) := by omega
                                    have ON : Hid (OW ss os fa u (fun k => Seen ss seen k ∨ k ∈ r5.take (i + 1)) ows) := O15.out.mono (fun j hj => by
                                      rw [tk]
                                      rcases hj with hj | hj
                                      · exact .inl hj
                                      · exact .inr (by simp [hj]))
                                    clear T5 A19 hv1 mk tk hs hsw hnt hk eb eS d0
                                    go_wp2_with fail
                                    exact ⟨⟨i + 1, fp16, ows, by omega, by go_num, P15.out, ON.out⟩, by simp [intOf] <;> omega⟩
                                · have hi2 : i = s5.n := by omega
                                  have ON : Hid (OW ss os fa u (Seen ss (seen ++ [t])) ows) := O15.out.mono (fun k hk => by
                                    rcases hk with ⟨s2, g1, g2⟩ | hk
                                    · exact ⟨s2, g1, by simp [g2]⟩
                                    · obtain ⟨_, s2, g1, g2⟩ := (I5'.out t r5 R5'.out).2 k (List.mem_of_mem_take hk)
                                      exact ⟨s2, g1, by simp [g2]⟩)
                                  clear hi2
                                  go_wp2_with fail
                                  exact ⟨⟨j + 1, fp16, ows, M20', seen ++ [t], by omega, by go_num, P15.out, ON.out, Q20'.out⟩, by simp [intOf] <;> omega⟩
                            · as_aux_lemma =>
                              have hle9 : ¬ ((s5.n : Int) ≤ (s11.n : Int)) := by omega
                              go_big_quiet (fail)
                              obtain ⟨wy, hwy⟩ : ∃ z : World, z = wz.drewN nq := ⟨_, rfl⟩
                              have P14 : Hid _ := P13.out.keep (Upd.drewN [] wz nq) (by simp)
                              have c11' : wy.cell? ⟨b11, u, none⟩ = some (.slice s11.a s11.n s11.c) := by rw [hwy]; exact c11
                              rw [← hwy] at P14 ⊢
                              clear hwy c5 c11 P13
                              go_wp2_with fail
                              clear c11'
                              go_loopw [271] (fun t271 wr => ∃ (i : Nat) (fp16 : List Nat) (ows : List (List Nat)), i ≤ s11.n ∧ t271 = .int .i64 i ∧ Pcs w wr (L4 w fb cf n b11 b16 b19 b20 ss.length os.length fa SA fp5 v5 R5 fp6 v6 R6 fp11 v11 R11 fp16 ows M19 M20') ∧ OW ss os fa u (fun k => Seen ss seen k ∨ ∃ s, ss[k]? = some s ∧ s.wr = t ∧ s.ob ∈ r11.take i) ows) (fun u _ => s11.n - (intOf u).toNat)
                              case atStart => exact ⟨0, fp16, ows, by omega, rfl, P14.out, O12.out.mono (fun k h => .inl h)⟩
                              case round =>
                                obtain ⟨i, fp16, ows, hi1, rfl, h1, h2⟩ := hrel
                                have P15 : Hid _ := h1
                                have O15 : Hid _ := h2
                                clear h1 h2
                                by_cases hlti : i < s11.n
                                · obtain ⟨x, hx⟩ := has_at r11 (k := i) (by rw [← N11.out]; exact hlti)
                                  have T11 : TabV b11 n fp11 v11 R11 wr := P15.out.mem (i := 4) rfl
                                  obtain ⟨b, eb, cb⟩ := T11.num S11.out R11'.out hx
                                  have MS : Hid (MapAt wr k2 (w.heap.size + 1) (fun p => (SA p).map (ik .i64))) := P15.out.mem (i := 1) rfl
                                  have tk := take_snoc hx
                                  have up : ∀ j, (Seen ss seen j ∨ ∃ s, ss[j]? = some s ∧ s.wr = t ∧ s.ob ∈ r11.take i) → (Seen ss seen j ∨ ∃ s, ss[j]? = some s ∧ s.wr = t ∧ s.ob ∈ r11.take (i + 1)) := by
                                    intro j hj
                                    rw [tk]
                                    rcases hj with hj | ⟨s, g1, g2, g3⟩
                                    · exact .inl hj
                                    · exact .inr ⟨s, g1, g2, by simp [g3]⟩
                                  rw [eb]
                                  cases hSA : SA (t, x) with
                                  | none =>
                                    have SAN : Hid (SA (t, x) = none) := hSA
                                    have ON : Hid (OW ss os fa u (fun k => Seen ss seen k ∨ ∃ s, ss[k]? = some s ∧ s.wr = t ∧ s.ob ∈ r11.take (i + 1)) ows) := O15.out.mono up
                                    clear hSA up tk T11 eb hx
                                    go_wp2_with (at_lookup; refine wpList_look2 rfl (.tmp 276) (.tmp 279) 178 rfl Ybaz.underlying178 key180 (w.heap.size + 1) _ MS.out (t, x) zero3 rfl rfl (.int .i64 0) false (by simp only [SAN.out]; rfl) (by simp only [SAN.out]; rfl) ?_)
                                    exact ⟨⟨i + 1, fp16, ows, by omega, by go_num, P15.out, ON.out⟩, by simp [intOf] <;> omega⟩
                                  | some k => as_aux_lemma =>
                                    have SAN : Hid (SA (t, x) = some k) := hSA
                                    obtain ⟨s, hs, hsw, hso⟩ := IA.out (t, x) k hSA
                                    simp only at hsw hso
                                    have hkm := (List.getElem?_eq_some_iff.mp hs).1
                                    obtain ⟨⟨o, ho, huo⟩, _⟩ := (J11.out u r11 R11'.out).2 x (List.mem_of_getElem? hx)
                                    have hgood : good ss os k u := ⟨s, o, hs, by rw [hso]; exact ho, huo, k', s', KP.out.1, KP.out.2.1.trans hsw.symm, KP.out.2.2⟩
                                    have T16 : Tab b16 ss.length fp16 ows wr := P15.out.mem (i := 5) rfl
                                    obtain ⟨r, hr⟩ := has_at ows (k := k) (by rw [T16.len]; exact hkm)
                                    obtain ⟨i0, hi0⟩ := has_at fa (k := k) (by rw [HFL.out]; exact hkm)
                                    have hfc := HFA.out k i0 hi0
                                    have hfc' := (P15.out.bel.cell (World.block_lt_of_cell? _ _ hfc.1)).trans hfc.1
                                    have hnP : ¬ (Seen ss seen k ∨ ∃ s, ss[k]? = some s ∧ s.wr = t ∧ s.ob ∈ r11.take i) := by
                                      rintro (⟨s2, g1, g2⟩ | ⟨s2, g1, g2, g3⟩)
                                      · rw [hs] at g1; cases g1
                                        rw [hsw] at g2; exact hts.out g2
                                      · rw [hs] at g1; cases g1
                                        rw [hso] at g3
                                        have nd := (J11.out u r11 R11'.out).1
                                        rw [← List.take_append_drop i r11, List.nodup_append] at nd
                                        refine nd.2.2 x g3 x ?_ rfl
                                        rw [drop_at hx]; simp
                                    have ON : Hid (OW ss os fa u (fun k => Seen ss seen k ∨ ∃ s, ss[k]? = some s ∧ s.wr = t ∧ s.ob ∈ r11.take (i + 1)) (if i0 = (u : Int) then ows else ows.set k (r ++ [u]))) := by
                                      show OW ss os fa u (fun k => Seen ss seen k ∨ ∃ s, ss[k]? = some s ∧ s.wr = t ∧ s.ob ∈ r11.take (i + 1)) (if i0 = (u : Int) then ows else ows.set k (r ++ [u]))
                                      split
                                      · exact O15.out.mono up
                                      · exact O15.out.add hr hnP hgood up (.inr ⟨s, hs, hsw, by rw [tk, hso]; simp⟩)
                                    have hrl := O15.out.short hr
                                    have HC : Hid (Calls Ybaz.prog 62 #[.int .i64 k, .int .i64 u, .pointer (some ⟨w.heap.size, 0, none⟩), .pointer (some ⟨b16 + 1, 0, none⟩)] wr fun e w' => e = .returned (.tuple #[]) ∧ ∃ fp', Pcs w w' (L4 w fb cf n b11 b16 b19 b20 ss.length os.length fa SA fp5 v5 R5 fp6 v6 R6 fp11 v11 R11 fp' (if i0 = (u : Int) then ows else ows.set k (r ++ [u])) M19 M20')) := add62 w wr _ P15.out w.heap.size (b16 + 1) b16 fb cf ss.length 0 6 5 fa fp16 ows rfl rfl rfl (by decide) k u i0 r hi0 hfc' hr (by omega)
                                    clear hSA up tk T11 eb hx hs hsw hso ho huo hgood T16 hr hi0 hfc hfc' hnP hrl
                                    go_wp2_with (at_lookup; refine wpList_look2 rfl (.tmp 276) (.tmp 279) 178 rfl Ybaz.underlying178 key180 (w.heap.size + 1) _ MS.out (t, x) zero3 rfl rfl (.int .i64 k) true (by simp only [SAN.out]; rfl) (by simp only [SAN.out]; rfl) ?_)
                                    refine HC.out.mono ?_
                                    rintro e w2 ⟨rfl, fp', p9⟩
                                    have P16 : Hid _ := p9
                                    clear p9
                                    go_wp2_with fail
                                    exact ⟨⟨i + 1, fp', _, by omega, by go_num, P16.out, ON.out⟩, by simp [intOf] <;> omega⟩
                                · have ON : Hid (OW ss os fa u (Seen ss (seen ++ [t])) ows) := O15.out.mono (fun k hk => by
                                    rcases hk with ⟨s2, g1, g2⟩ | ⟨s2, g1, g2, _⟩
                                    · exact ⟨s2, g1, by simp [g2]⟩
                                    · exact ⟨s2, g1, by simp [g2]⟩)
                                  go_wp2_with fail
                                  exact ⟨⟨j + 1, fp16, ows, M20', seen ++ [t], by omega, by go_num, P15.out, ON.out, Q20'.out⟩, by simp [intOf] <;> omega⟩
                        · go_wp2_with fail
                          exact ⟨⟨u + 1, fp16, ows, M19, M20, by omega, by go_num, P12.out, O12.out.next, Q19'.out.next, Q20.out.next⟩, by simp [intOf] <;> omega⟩
                · as_aux_lemma =>
                  have hu9 : u = n := by omega
                  have OF : Hid (OWF ss os fa n ows) := by
                    have := O10.out
                    rw [hu9] at this
                    exact this.final (P := fun _ => False)
                  clear O10 hu9 K19 K20
                  obtain ⟨v16, hv16⟩ := (show Tab b16 ss.length fp16 ows wr from P10.out.mem (i := 5) rfl).told
                  have c16w : wr.cell? ⟨b16 + 1, 0, none⟩ = some (.slice (some ⟨b16, 0, none⟩) ss.length ss.length) := P10.out.mem (i := 6) rfl
                  have G16 : Hid (∀ y ∈ fp16, w.heap.size ≤ y ∧ y < wr.heap.size) := fun y hy => ⟨P10.out.ge (i := 5) rfl y hy, P10.out.lt (i := 5) rfl y hy⟩
                  have g16 : w.heap.size ≤ b16 + 1 ∧ b16 + 1 < wr.heap.size := ⟨P10.out.ge (i := 6) rfl _ (by simp), P10.out.lt (i := 6) rfl _ (by simp)⟩
                  have hb16 : b16 ∈ fp16 := by
                    obtain ⟨_, e, _⟩ := hv16.lies
                    rw [e]; simp
                  have hb16' := G16.out b16 hb16
                  have bel := P10.out.bel
                  obtain ⟨wq, hwq⟩ : ∃ z : World, z = wr := ⟨_, rfl⟩
                  subst hwq
                  have cn : wq.cell? ⟨d, 0, none⟩ = some (.slice aN n cN) := (bel.cell hd).trans CN.out
                  have cs : wq.cell? ⟨d, 4, none⟩ = some (.slice sg.a ss.length sg.c) := (bel.cell hd).trans CS.out
                  have hz1 := bel.size
                  have hdq : d < wq.heap.size := by omega
                  have hdq1 : d < wq.heap.size + 1 := by omega
                  have hdq2 : d < wq.heap.size + 1 + 1 := by omega
                  have hdq3 : d < wq.heap.size + 1 + 1 + 1 := by omega
                  have hm := mkInts.made n n (Nat.le_refl _) (by omega) (by decide)
                  have BEL : Hid _ := bel
                  have V16 : Hid _ := hv16
                  have C16 : Hid (wq.cell? ⟨b16 + 1, 0, none⟩ = some (.slice (some ⟨b16, 0, none⟩) ss.length ss.length)) := c16w
                  clear P10 bel hv16 c16w hb16
                  go_wp2_with fail
                  clear hm cn cs
                  have MMx : Hid (Two2 wq.heap.size n ((((wq.alloc (.cells (zeros (.int .i64 0) n).toArray 3)).alloc (.cells #[.slice (some ⟨wq.heap.size, 0, none⟩) n n] 83)).alloc (.cells (zeros (.int .i64 0) n).toArray 3)).alloc (.cells #[.slice (some ⟨wq.heap.size + 1 + 1, 0, none⟩) n n] 83)) (List.replicate n 0) (List.replicate n 0)) := two2_first wq n (by omega)
                  obtain ⟨WZ, hWZ⟩ : ∃ z : World, z = ((((wq.alloc (.cells (zeros (.int .i64 0) n).toArray 3)).alloc (.cells #[.slice (some ⟨wq.heap.size, 0, none⟩) n n] 83)).alloc (.cells (zeros (.int .i64 0) n).toArray 3)).alloc (.cells #[.slice (some ⟨wq.heap.size + 1 + 1, 0, none⟩) n n] 83)) := ⟨_, rfl⟩
                  have UZ : Upd [] wq WZ := by rw [hWZ]; exact (((Upd.alloc [] _ _).trans (Upd.alloc [] _ _) (by simp)).trans (Upd.alloc [] _ _) (by simp)).trans (Upd.alloc [] _ _) (by simp)
                  have zz : WZ.heap.size = wq.heap.size + 4 := by rw [hWZ]; simp
                  rw [← hWZ] at MMx ⊢
                  rw [show wq.heap.size + 1 + 1 + 1 = wq.heap.size + 3 from rfl, show wq.heap.size + 1 + 1 = wq.heap.size + 2 from rfl]
                  obtain ⟨N, hN⟩ : ∃ z, z = wq.heap.size := ⟨_, rfl⟩
                  have TV : Hid _ := TabV.keeps _ _ _ _ _ wq WZ [] V16.out UZ (by simp)
                  have CV : Hid (CellIs (b16 + 1) (.slice (some ⟨b16, 0, none⟩) ss.length ss.length) WZ) := UZ.cell C16.out (by simp)
                  have BZ : Hid (Below w.heap.size w WZ) := BEL.out.trans (UZ.below hz1 (by simp))
                  rw [← hN] at MMx zz G16 g16 hb16' hz1 ⊢
                  clear hWZ V16 C16 UZ BEL hdq hdq1 hdq2 hdq3 hN
                  have MR2 : Marks n (0 + 1) (List.replicate n 0) [] := MR n
                  clear MR
                  go_loopw [308] (fun t308 wr => ∃ (k : Nat) (g' : GG) (G' : List (List Nat)) (J' : List Bool) (M1 M2 : List Nat), k ≤ ss.length ∧ t308 = .int .i64 k ∧ Gr wr d 2 g' G' J' ∧ Grew d w wr g g' ∧ Two2 N n wr M1 M2 ∧ Marks n (k + 1) M1 [] ∧ Marks n (k + 1) M2 [] ∧ (∀ y ∈ g'.foot, y < w.heap.size ∨ N + 4 ≤ y) ∧ N + 4 ≤ wr.heap.size ∧ G.length ≤ G'.length ∧ G'.length + wt G' ≤ G.length + wt G + k * 70000 ∧ overG G' (ss.drop k) (ows.drop k) = overG G ss ows ∧ overJ J' (ss.drop k) (ows.drop k) = overJ J ss ows ∧ TabV b16 ss.length fp16 v16 ows wr ∧ CellIs (b16 + 1) (.slice (some ⟨b16, 0, none⟩) ss.length ss.length) wr) (fun i _ => ss.length - (intOf i).toNat)
                  case atStart =>
                    have BB := BZ.out
                    exact ⟨0, g, G, J, _, _, by omega, rfl, HG.out.below BB, ⟨⟨BB.os, BB.tape, BB.output, BB.size, fun k hk _ => BB.block k hk⟩, fun k hk => .inl hk, rfl⟩, MMx.out, MR2, MR2, fun k hk => .inl (HG.out.footLt k hk), by omega, by omega, by omega, rfl, rfl, TV.out, CV.out⟩
                  case round =>
                    obtain ⟨k, g', G', J', M1, M2, hk1, rfl, h1, h2, h3, h4, h5, h6, h7, h8, h9, h10, h11, h12, h13⟩ := hrel
                    have H1 : Hid _ := h1
                    have K1 : Hid _ := h2
                    have T1 : Hid _ := h3
                    have A1 : Hid _ := h4
                    have A2 : Hid _ := h5
                    have F1 : Hid _ := h6
                    have E1 : Hid (overG G' (ss.drop k) (ows.drop k) = overG G ss ows) := h10
                    have E2 : Hid (overJ J' (ss.drop k) (ows.drop k) = overJ J ss ows) := h11
                    have W1 : Hid _ := h9
                    have TW : Hid _ := h12
                    have cb16 : wr.cell? ⟨b16 + 1, 0, none⟩ = some (.slice (some ⟨b16, 0, none⟩) ss.length ss.length) := h13
                    clear h1 h2 h3 h4 h5 h6 h9 h10 h11 h12 h13
                    by_cases hlt : k < ss.length
                    · obtain ⟨s, hs⟩ := has_at ss hlt
                      obtain ⟨sv, r, hsv, hr⟩ := TW.out.has hlt
                      obtain ⟨c16, n16, nl16, f16, l16, in16⟩ := TW.out.get hsv hr
                      have hS1 := HS.out.keep K1.out.upd DS.out
                      obtain ⟨bS, v, f, eS, c0, c1, c2, c3, nv, lv, fv, _⟩ := hS1.at hs
                      obtain ⟨hs1, hs2, hs3, hs4⟩ := HSS.out s (List.mem_of_getElem? hs)
                      rw [eS]
                      have HSK : Hid (ss[k]? = some s) := hs
                      have HRK : Hid (ows[k]? = some r) := hr
                      have ed : ss.drop k = s :: ss.drop (k + 1) := drop_at hs
                      have er : ows.drop k = r :: ows.drop (k + 1) := drop_at hr
                      have b36 : bS < wr.heap.size := World.block_lt_of_cell? _ _ c0
                      by_cases hre : r = []
                      · have ha : sv.a = none := nl16 hre
                        rw [ha] at c16
                        have e1 := E1.out
                        have e2 := E2.out
                        rw [ed, er, hre] at e1 e2
                        have E1' : Hid (overG G' (ss.drop (k + 1)) (ows.drop (k + 1)) = overG G ss ows) := e1
                        have E2' : Hid (overJ J' (ss.drop (k + 1)) (ows.drop (k + 1)) = overJ J ss ows) := e2
                        have TW' : Hid _ := TabV.keeps _ _ _ _ _ wr _ [] TW.out (Upd.alloc [] wr (.cells #[.int .i64 s.ob, .int .i64 s.wr, .int .i64 s.rk, .slice v.a v.n v.c] 142)) (by simp)
                        have KA := Upd.alloc [] wr (.cells #[.int .i64 s.ob, .int .i64 s.wr, .int .i64 s.rk, .slice v.a v.n v.c] 142)
                        have CB : Hid (CellIs (b16 + 1) (.slice (some ⟨b16, 0, none⟩) ss.length ss.length) (wr.alloc (.cells #[.int .i64 s.ob, .int .i64 s.wr, .int .i64 s.rk, .slice v.a v.n v.c] 142))) := KA.cell cb16 (by simp)
                        have HZ : Hid (N + 4 ≤ (wr.alloc (.cells #[.int .i64 s.ob, .int .i64 s.wr, .int .i64 s.rk, .slice v.a v.n v.c] 142)).heap.size) := Nat.le_trans h7 KA.size
                        have R1 : Hid _ := H1.out.keep KA (by simp) (by simp)
                        have R2 : Hid _ := T1.out.keep KA (by simp)
                        have R3 : Hid (Grew d w (wr.alloc (.cells #[.int .i64 s.ob, .int .i64 s.wr, .int .i64 s.rk, .slice v.a v.n v.c] 142)) g g') := ⟨K1.out.upd.trans KA (by simp), K1.out.foot, K1.out.kc⟩
                        have LBW : Hid (G'.length + wt G' ≤ G.length + wt G + (k + 1) * 70000) := Nat.le_trans W1.out (Nat.add_le_add_left (Nat.mul_le_mul_right 70000 (Nat.le_succ k)) _)
                        have hin := q83n
                        have hb0 : b16 < wr.heap.size := by omega
                        have hb1 : b16 + 1 < wr.heap.size := by omega
                        clear e1 e2 ed er hre ha nl16 l16 in16 hS1 lv fv nv hs hr hsv eS KA hs3
                        go_wp2_with fail
                        exact ⟨⟨k + 1, g', G', J', M1, M2, by omega, by go_num, R1.out, R3.out, R2.out, A1.out.next, A2.out.next, F1.out, HZ.out, h8, LBW.out, E1'.out, E2'.out, TW'.out, CB.out⟩, by simp [intOf] <;> omega⟩
                      · as_aux_lemma =>
                        obtain ⟨x0, x1, hrc⟩ := List.exists_cons_of_ne_nil hre
                        have hrb : Hid (∀ y ∈ r, y < n) := by
                          intro y hy
                          rcases (OF.out.row k r HRK.out).2 y hy with ⟨i, g1, g2, g3⟩ | ⟨g1, _⟩
                          · have := (HFA.out k i g1).2.2
                            omega
                          · exact g1
                        have hrlen := (OF.out.row k r HRK.out).1
                        obtain ⟨bR, ebR, _⟩ := TW.out.num hsv hr (j := 0) (x := x0) (by rw [hrc]; rfl)
                        have HSV : Hid (v16[k]? = some sv) := hsv
                        have HRE : Hid (r ≠ []) := hre
                        have ED : Hid (ss.drop k = s :: ss.drop (k + 1)) := ed
                        have ER : Hid (ows.drop k = r :: ows.drop (k + 1)) := er
                        have EBR : Hid (sv.a = some ⟨bR, 0, none⟩) := ebR
                        have HS3 : Hid (∀ t ∈ s.rd, t < n) := hs3
                        have FV : Hid (∀ j ∈ f, j ∈ sg.foot) := fv
                        rw [nv] at lv c3
                        rw [n16, ebR] at l16
                        rw [n16, ebR] at c16
                        have LV : Hid _ := lv
                        have L16 : Hid _ := l16
                        have IN16 : Hid (∀ y ∈ f16, y ∈ fp16) := in16
                        have hq := q83s
                        have hb0 : b16 < wr.heap.size := by omega
                        have hb1 : b16 + 1 < wr.heap.size := by omega
                        have hb2 : b16 < wr.heap.size + 1 := by omega
                        have hb3 : b16 + 1 < wr.heap.size + 1 := by omega
                        obtain ⟨wz, hwz⟩ : ∃ y : World, y = wr := ⟨_, rfl⟩
                        subst hwz
                        clear hrc hre ed er nl16 l16 in16 hS1 lv fv nv hs hr hsv eS hs3 ebR n16
                        go_wp2_with fail
                        clear hq
                        obtain ⟨Wa, hWa⟩ : ∃ W : World, W = (wz.alloc (.cells #[.int .i64 s.ob, .int .i64 s.wr, .int .i64 s.rk, .slice v.a s.rd.length v.c] 142)).alloc (.cells #[.int .i64 ((k : Int) + 1)] 3) := ⟨_, rfl⟩
                        have UA : Upd [] wz Wa := by rw [hWa]; exact (Upd.alloc [] _ _).trans (Upd.alloc [] _ _) (by simp)
                        have za : Wa.heap.size = wz.heap.size + 2 := by rw [hWa]; simp
                        have k3 : Wa.cell? ⟨wz.heap.size, 3, none⟩ = some (.slice v.a s.rd.length v.c) := by
                          rw [hWa]
                          exact (Blk.keep (Blk.new wz #[.int .i64 s.ob, .int .i64 s.wr, .int .i64 s.rk, .slice v.a s.rd.length v.c] 142) (Upd.alloc [] _ _) (by simp)).cell 3
                        have k2' : Wa.cell? ⟨wz.heap.size + 1, 0, none⟩ = some (.int .i64 ((k : Int) + 1)) := by
                          have := Blk.new (wz.alloc (.cells #[.int .i64 s.ob, .int .i64 s.wr, .int .i64 s.rk, .slice v.a s.rd.length v.c] 142)) #[.int .i64 ((k : Int) + 1)] 3
                          simp only [World.size_alloc] at this
                          rw [hWa]
                          exact this.cell 0
                        have kb16 := UA.cell cb16 (by simp)
                        have kc16 := UA.cell c16 (by simp)
                        rw [← hWa]
                        clear hWa c0 c1 c2 c3 cb16 c16 hb0 hb1 hb2 hb3
                        have UA' : Hid _ := UA
                        clear UA
                        go_loopw [323] (fun t323 wx => ∃ (j : Nat) (Mk : List Nat), j ≤ s.rd.length ∧ t323 = .int .i64 j ∧ Two2 N n wx Mk M2 ∧ Marks n (k + 1) Mk (s.rd.take j) ∧ Upd [N] Wa wx) (fun i _ => s.rd.length - (intOf i).toNat)
                        case atStart => exact ⟨0, M1, by omega, rfl, T1.out.keep UA'.out (by simp), by simpa using A1.out, Upd.refl _ _⟩
                        case round =>
                          obtain ⟨j, Mk, hj, rfl, q1, q2, q3⟩ := hrel
                          have Q1 : Hid _ := q1
                          have Q2 : Hid _ := q2
                          have Q3 : Hid _ := q3
                          clear q1 q2 q3
                          by_cases hlt2 : j < s.rd.length
                          · as_aux_lemma =>
                            obtain ⟨t, ht⟩ := has_at s.rd hlt2
                            have htn := HS3.out t (List.mem_of_getElem? ht)
                            obtain ⟨b, eb, _, cb⟩ := ((LV.out.keep UA'.out (by simp)).keep Q3.out (by intro j hj hm; simp at hm; subst hm; have := HS.out.lt _ (FV.out _ hj); omega)).get (j := j) (v := nI t) (by simp [ht])
                            obtain ⟨gm, egm, _, _, cm, zm⟩ := Q1.out.s1.has (by omega)
                            injection egm with egm
                            injection egm with egm
                            subst egm
                            obtain ⟨v0, hv0⟩ := has_at Mk (k := t) (by rw [Q2.out.len]; exact htn)
                            have cm1 := cm t (by omega)
                            rw [show (Mk.map nI)[t]? = some (nI v0) by simp [hv0]] at cm1
                            have zm1 := zm t
                            have cb1 := Q1.out.b1
                            have ck := Q3.out.cell k2' (by simp; omega)
                            unfold nI at cb cm1
                            rw [eb]
                            have HTT : Hid _ := ht
                            clear ht hv0 cm zm eb k3 k2' kb16 kc16
                            go_wp2_with fail
                            have e1 := take_snoc HTT.out
                            exact ⟨⟨j + 1, Mk.set t (k + 1), by omega, by go_num, Q1.out.put1 t (k + 1), by rw [e1]; exact Q2.out.put t htn, Q3.out.trans (Upd.store _ _ _ _) (fun j hj => .inl hj)⟩, by simp [intOf] <;> omega⟩
                          · have hk2 : j = s.rd.length := by omega
                            have q2 := Q2.out
                            rw [hk2, List.take_length] at q2
                            have Q2' : Hid _ := q2
                            clear q2 Q2 hk2
                            obtain ⟨wb, hwb⟩ : ∃ y : World, y = wr := ⟨_, rfl⟩
                            subst hwb
                            have k3' := Q3.out.cell k3 (by simp; omega)
                            have k2'' := Q3.out.cell k2' (by simp; omega)
                            have kb16' := Q3.out.cell kb16 (by simp; omega)
                            have kc16' := Q3.out.cell kc16 (by simp; omega)
                            have zb := Q3.out.size
                            go_wp2_with fail
                            go_loopw [337] (fun t337 wx => ∃ (j : Nat) (Mj : List Nat), j ≤ r.length ∧ t337 = .int .i64 j ∧ Two2 N n wx Mk Mj ∧ Marks n (k + 1) Mj (r.take j) ∧ Upd [N, N + 2] Wa wx) (fun i _ => r.length - (intOf i).toNat)
                            case atStart => exact ⟨0, M2, by omega, rfl, Q1.out, by simpa using A2.out, Q3.out.mono (fun j hj => .inl (by simp at hj; simp [hj]))⟩
                            case round =>
                              obtain ⟨j, Mj, hj, rfl, q1, q2, q3⟩ := hrel
                              have R1 : Hid _ := q1
                              have R2 : Hid _ := q2
                              have R3 : Hid _ := q3
                              clear q1 q2 q3
                              have low16 : ∀ y ∈ f16, y ∉ [N, N + 2] := by
                                intro y hy hm
                                have := G16.out y (IN16.out y hy)
                                simp at hm; omega
                              by_cases hlt2 : j < r.length
                              · as_aux_lemma =>
                                obtain ⟨t, ht⟩ := has_at r hlt2
                                have htn := hrb.out t (List.mem_of_getElem? ht)
                                obtain ⟨b, eb, _, cb⟩ := ((L16.out.keep UA'.out (by simp)).keep R3.out low16).get (j := j) (v := nI t) (by simp [ht])
                                injection eb with eb
                                injection eb with eb
                                subst eb
                                obtain ⟨gm, egm, _, _, cm, zm⟩ := R1.out.s2.has (by omega)
                                injection egm with egm
                                injection egm with egm
                                subst egm
                                obtain ⟨v0, hv0⟩ := has_at Mj (k := t) (by rw [R2.out.len]; exact htn)
                                have cm1 := cm t (by omega)
                                rw [show (Mj.map nI)[t]? = some (nI v0) by simp [hv0]] at cm1
                                have zm1 := zm t
                                have cb1 := R1.out.b2
                                have ck := R3.out.cell k2' (by simp; omega)
                                unfold nI at cb cm1
                                have HTT : Hid _ := ht
                                clear ht hv0 cm zm k3 k2' kb16 kc16 k3' k2'' kb16' kc16' low16
                                go_wp2_with fail
                                have e1 := take_snoc HTT.out
                                exact ⟨⟨j + 1, Mj.set t (k + 1), by omega, by go_num, R1.out.put2 t (k + 1), by rw [e1]; exact R2.out.put t htn, R3.out.trans (Upd.store _ _ _ _) (fun j hj => .inl (by simp at hj; simp [hj]))⟩, by simp [intOf] <;> omega⟩
                              · as_aux_lemma =>
                                have hk2 : j = r.length := by omega
                                have q2 := R2.out
                                rw [hk2, List.take_length] at q2
                                have R2' : Hid _ := q2
                                clear q2 R2 hk2
                                obtain ⟨wc, hwc⟩ : ∃ y : World, y = wr := ⟨_, rfl⟩
                                subst hwc
                                have k3'' := R3.out.cell k3 (by simp; omega)
                                have k2''' := R3.out.cell k2' (by simp; omega)
                                have kb16'' := R3.out.cell kb16 (by simp; omega)
                                have kc16'' := R3.out.cell kc16 (by simp; omega)
                                have zc := R3.out.size
                                clear k3 k2' kb16 kc16 k3' k2'' kb16' kc16'
                                go_upto_region 81 with fail
                                have UW : Upd [N, N + 2] wz wc := (UA'.out.mono (by simp)).trans R3.out (fun j hj => .inl hj)
                                have hNd : d ∉ [N, N + 2] := by simp; omega
                                have gL := H1.out.keep UW hNd (fun j hj hm => by have := F1.out j hj; simp at hm; omega)
                                have apR : Apart wc d g' v.a s.rd.length v.c s.rd := by
                                  refine ⟨f, LV.out.keep UW (fun j hj hm => by have := HS.out.lt j (FV.out j hj); simp at hm; omega), fun hm => DS.out d (FV.out d hm) (by simp), fun j hj hm => ?_⟩
                                  rcases K1.out.foot j hm with h1 | h1
                                  · exact DS.out j (FV.out j hj) (by simp [h1])
                                  · have := HS.out.lt j (FV.out j hj); omega
                                have apW : Apart wc d g' (some ⟨bR, 0, none⟩) r.length sv.c r := by
                                  refine ⟨f16, L16.out.keep UW low16, fun hm => by have := G16.out d (IN16.out d hm); omega, fun j hj hm => ?_⟩
                                  have h5 := G16.out j (IN16.out j hj)
                                  have := F1.out j hm
                                  omega
                                have tF : Tells wc 63 #[.pointer (some ⟨N + 1, 0, none⟩), .pointer (some ⟨wz.heap.size + 1, 0, none⟩)] r s.rd := by
                                  intro W t ht hb
                                  have htn := hrb.out t ht
                                  obtain ⟨v0, hv0⟩ := has_at Mk (k := t) (by rw [Q2'.out.len]; exact htn)
                                  have hv := Q2'.out.le t v0 hv0
                                  obtain ⟨gm, egm, _, glt, cm, _⟩ := R1.out.s1.has (by omega)
                                  injection egm with egm
                                  injection egm with egm
                                  subst egm
                                  have cm1 := cm t (by omega)
                                  rw [show (Mk.map nI)[t]? = some (nI v0) by simp [hv0]] at cm1
                                  have e1 := (hb.cell (World.block_lt_of_cell? _ _ R1.out.b1)).trans R1.out.b1
                                  have e2 := (hb.cell (World.block_lt_of_cell? _ _ k2''')).trans k2'''
                                  have e3 := (hb.cell (World.block_lt_of_cell? _ _ cm1)).trans cm1
                                  have := mark63 W _ _ _ n n t v0 ((k : Int) + 1) e1 e2 e3 htn
                                  rw [show ((v0 : Int) == (k : Int) + 1) = decide (t ∈ s.rd) by rw [Bool.eq_iff_iff]; simp only [beq_iff_eq, decide_eq_true_eq]; rw [← hv.2]; omega] at this
                                  exact this
                                have tT : Tells wc 64 #[.pointer (some ⟨N + 3, 0, none⟩), .pointer (some ⟨wz.heap.size + 1, 0, none⟩)] s.rd r := by
                                  intro W t ht hb
                                  have htn := HS3.out t ht
                                  obtain ⟨v0, hv0⟩ := has_at Mj (k := t) (by rw [R2'.out.len]; exact htn)
                                  have hv := R2'.out.le t v0 hv0
                                  obtain ⟨gm, egm, _, glt, cm, _⟩ := R1.out.s2.has (by omega)
                                  injection egm with egm
                                  injection egm with egm
                                  subst egm
                                  have cm1 := cm t (by omega)
                                  rw [show (Mj.map nI)[t]? = some (nI v0) by simp [hv0]] at cm1
                                  have e1 := (hb.cell (World.block_lt_of_cell? _ _ R1.out.b2)).trans R1.out.b2
                                  have e2 := (hb.cell (World.block_lt_of_cell? _ _ k2''')).trans k2'''
                                  have e3 := (hb.cell (World.block_lt_of_cell? _ _ cm1)).trans cm1
                                  have := mark64 W _ _ _ n n t v0 ((k : Int) + 1) e1 e2 e3 htn
                                  rw [show ((v0 : Int) == (k : Int) + 1) = decide (t ∈ r) by rw [Bool.eq_iff_iff]; simp only [beq_iff_eq, decide_eq_true_eq]; rw [← hv.2]; omega] at this
                                  exact this
                                have hcon : Hid (Calls Ybaz.prog 59 #[.pointer (some ⟨d, 2, none⟩), .slice v.a s.rd.length v.c, .slice (some ⟨bR, 0, none⟩) r.length sv.c, .func (.func 63) #[] #[.pointer (some ⟨N + 1, 0, none⟩), .pointer (some ⟨wz.heap.size + 1, 0, none⟩)], .func (.func 64) #[] #[.pointer (some ⟨N + 3, 0, none⟩), .pointer (some ⟨wz.heap.size + 1, 0, none⟩)]] wc.drew fun e w' => e = .returned (.tuple #[]) ∧ ∃ g'', Gr w' d 2 g'' (othersG G' s.rd r) (othersJ J' s.rd r) ∧ Grew d wc.drew w' g' g'') := by
                                  have bd : Below wc.heap.size wc wc.drew := ⟨rfl, rfl, rfl, Nat.le_refl _, fun _ _ => rfl⟩
                                  have hm1 : 6 * (s.rd.length + 2) * (r.length + 2) ≤ 6 * 102 * 102 := Nat.mul_le_mul (Nat.mul_le_mul_left _ (by omega)) (by omega)
                                  have w1 := W1.out
                                  have hw := HW.out
                                  have hx7 : k * 70000 ≤ ss.length * 70000 := Nat.mul_le_mul_right _ (by omega)
                                  exact others_any wc.drew d 2 g' G' J' (gL.below bd) v.a (some ⟨bR, 0, none⟩) v.c sv.c s.rd r (apR.below bd) (apW.below bd) (fun t ht => by have := HS3.out t ht; omega) (fun t ht => by have := hrb.out t ht; omega) (by omega) 63 64 _ _ (enters_of Ybaz.func63 (by kernel_rfl) rfl) (enters_of Ybaz.func64 (by kernel_rfl) rfl) tF.drew tT.drew
                                have GL : Hid _ := gL
                                have UW' : Hid _ := UW
                                have dz1 : Hid (wz.heap.size ∉ d :: g'.foot) := by
                                  intro hm
                                  simp only [List.mem_cons] at hm
                                  rcases hm with hm | hm
                                  · omega
                                  · have := H1.out.footLt _ hm; omega
                                have dz2 : Hid (b16 + 1 ∉ d :: g'.foot) := by
                                  intro hm
                                  simp only [List.mem_cons] at hm
                                  rcases hm with hm | hm
                                  · omega
                                  · have := F1.out _ hm; omega
                                have dz3 : Hid (b16 ∉ d :: g'.foot) := by
                                  intro hm
                                  simp only [List.mem_cons] at hm
                                  rcases hm with hm | hm
                                  · omega
                                  · have := F1.out _ hm; omega
                                clear gL UW tF tT apR apW low16
                                have hd9 : d < wc.heap.size := GL.out.lt
                                go_region_held3 (fun z => z.cell? ⟨wz.heap.size, 3, none⟩ = some (.slice v.a s.rd.length v.c) ∧ z.cell? ⟨b16 + 1, 0, none⟩ = some (.slice (some ⟨b16, 0, none⟩) ss.length ss.length) ∧ z.cell? ⟨b16, k, none⟩ = some (.slice (some ⟨bR, 0, none⟩) r.length sv.c)) (first | exact ⟨k3'', kb16'', kc16''⟩ | exact ⟨r2.upd.cell k3'' dz1.out, r2.upd.cell kb16'' dz2.out, r2.upd.cell kc16'' dz3.out⟩) ((go_at_call 59; refine hcon.out.mono ?_; rintro e w' ⟨rfl, g'', r1, r2⟩))
                                all_goals go_wp2_with fail
                                all_goals (
                                  have z2 := r2.upd.size
                                  have zw : wc.drew.heap.size = wc.heap.size := rfl
                                  have footUp : ∀ y ∈ d :: g'.foot, y < N ∨ N + 4 ≤ y := by
                                    intro y hy
                                    simp only [List.mem_cons] at hy
                                    rcases hy with rfl | hy
                                    · exact .inl (by omega)
                                    · have := F1.out y hy; omega
                                  have UA2 : Upd (d :: g.foot) w wc.drew := (K1.out.upd.trans UW'.out (fun k hk => .inr (by simp at hk; omega))).trans (Upd.drew [] _) (by simp)
                                  have UB : Upd (d :: g.foot) w w' := UA2.trans r2.upd (by
                                    intro k hk
                                    simp only [List.mem_cons] at hk
                                    rcases hk with rfl | hk
                                    · exact .inl (by simp)
                                    · rcases K1.out.foot k hk with h1 | h1
                                      · exact .inl (by simp [h1])
                                      · exact .inr h1)
                                  have T2 : Two2 N n w' Mk Mj := (R1.out.keep (Upd.drew [] _) (by simp)).keep r2.upd footUp
                                  have sz := othersG_size G' s.rd r (n + 1) (by omega) (by omega) (by omega)
                                  have w1 := W1.out
                                  have e1 := E1.out
                                  have e2 := E2.out
                                  rw [ED.out, ER.out] at e1 e2
                                  simp only [overG, overJ, if_neg HRE.out] at e1 e2
                                  have UD : Upd [N, N + 2] wz wc.drew := UW'.out.trans (Upd.drew [] _) (by simp)
                                  have TV1 := TabV.keeps _ _ _ _ _ wz wc.drew _ TW.out UD (fun y hy hm => by have := G16.out y hy; simp at hm; omega)
                                  have TV2 := TabV.keeps _ _ _ _ _ wc.drew w' _ TV1 r2.upd (fun y hy hm => by
                                    have h5 := G16.out y hy
                                    simp only [List.mem_cons] at hm
                                    rcases hm with hm | hm
                                    · omega
                                    · have := F1.out y hm; omega)
                                  refine ⟨⟨k + 1, g'', _, _, Mk, Mj, by omega, by go_num, r1, ⟨UB, ?_, r2.kc.trans K1.out.kc⟩, T2, Q2'.out.next, R2'.out.next, ?_, by omega, by omega, by omega, e1, e2, TV2, r2.upd.cell kb16'' dz2.out⟩, by simp [intOf] <;> omega⟩
                                  · intro k hk
                                    rcases r2.foot k hk with h1 | h1
                                    · exact K1.out.foot k h1
                                    · exact .inr (by omega)
                                  · intro k hk
                                    rcases r2.foot k hk with h1 | h1
                                    · exact F1.out k h1
                                    · exact .inr (by omega))
                    · as_aux_lemma =>
                      have hk2 : k = ss.length := by omega
                      subst hk2
                      go_wp2_with fail
                      go_end0
                      have e1 := E1.out
                      have e2 := E2.out
                      rw [List.drop_length, overG_nil] at e1
                      rw [List.drop_length, overJ_nil] at e2
                      exact ⟨rfl, g', ows, OF.out, by rw [← e1, ← e2]; exact H1.out, K1.out⟩
end Go.Proofs.YbulkctquGreatFmt
