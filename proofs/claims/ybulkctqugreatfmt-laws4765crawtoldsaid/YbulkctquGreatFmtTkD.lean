/-
  takeUp, where nothing is taken up: whole.
-/
import Derived.Test.YbulkctquGreatFmtTkB
import Derived.Test.YbulkctquGreatFmtTkC
import Derived.Laws.EntriesVeiled
import Derived.Deep.RegionWith
import Derived.BigQuiet
import Derived.Deep.DeepCutAuto
namespace Go.Proofs.YbulkctquGreatFmt
open Go.ChangeShapes Go.WideShapes Go.ChangeAt Go.RowKit Go.Ord
set_option linter.unusedVariables false
set_option maxHeartbeats 16000000 in
set_option maxRecDepth 100000 in
theorem takeUp48 (w : World) (d m : Nat) (hm : m ≤ 12) (vN : Option Addr) (cN : Nat) (cn : w.cell? ⟨d, 0, none⟩ = some (.slice vN m cN)) (og : OG) (os : List Ob) (co : w.cell? ⟨d, 5, none⟩ = some (.slice og.a os.length og.c)) (hO : Objs w og os) (sg : SG) (ss : List Sr) (cs : w.cell? ⟨d, 4, none⟩ = some (.slice sg.a ss.length sg.c)) (hS : Srcs w sg ss) (cc : w.cell? ⟨d, 6, none⟩ = some (.slice none 0 0))
    (aP : Option Addr) (cP : Nat) (P fP : List Nat) (hP : Sl w 3 1 aP P.length cP fP (P.map nI)) (nd : P.Nodup) (mem : ∀ x, x ∈ P ↔ x < m) (hos : ∀ o ∈ os, (∀ t ∈ o.wr, t < m) ∧ o.wr.Nodup ∧ o.wr.length ≤ m) (hss : ∀ s ∈ ss, s.wr < m ∧ (∀ t ∈ s.rd, t < m) ∧ s.rd ≠ [] ∧ s.rd.length ≤ m ∧ ∃ o, os[s.ob]? = some o ∧ s.wr ∈ o.wr) (hlo : os.length < 1000) (hls : ss.length < 1000)
    (non : ∀ (k : Nat) (s : Sr) (o : Ob) (t u : Nat), ss[k]? = some s → os[s.ob]? = some o → t ∈ s.rd → u ∈ o.wr → Befo P s.wr u → t = u ∨ Befo P t u) :
    Calls Ybaz.prog 48 #[.pointer (some ⟨d, 0, none⟩), .slice aP P.length cP] w (fun e w' => e = .returned (.bool false) ∧ Below w.heap.size w w') := by
  have HO : Hid _ := hO
  have HS : Hid _ := hS
  have HP : Hid _ := hP
  have ND : Hid (P.Nodup) := nd
  have MEM : Hid (∀ x, x ∈ P ↔ x < m) := mem
  have HOS : Hid (∀ o ∈ os, (∀ t ∈ o.wr, t < m) ∧ o.wr.Nodup ∧ o.wr.length ≤ m) := hos
  have HSS : Hid (∀ s ∈ ss, s.wr < m ∧ (∀ t ∈ s.rd, t < m) ∧ s.rd ≠ [] ∧ s.rd.length ≤ m ∧ ∃ o, os[s.ob]? = some o ∧ s.wr ∈ o.wr) := hss
  have NON : Hid (∀ (k : Nat) (s : Sr) (o : Ob) (t u : Nat), ss[k]? = some s → os[s.ob]? = some o → t ∈ s.rd → u ∈ o.wr → Befo P s.wr u → t = u ∨ Befo P t u) := non
  have CO : Hid (w.cell? ⟨d, 5, none⟩ = some (.slice og.a os.length og.c)) := co
  have CC : Hid (w.cell? ⟨d, 6, none⟩ = some (.slice none 0 0)) := cc
  have CS : Hid (w.cell? ⟨d, 4, none⟩ = some (.slice sg.a ss.length sg.c)) := cs
  have hd : d < w.heap.size := World.block_lt_of_cell? _ _ co
  have hPl : P.length ≤ 12 := by have := nodup_len m P nd (fun v hv => (mem v).mp hv); omega
  have hmk := mkInts.made m m (Nat.le_refl _) (by omega) (by decide)
  clear hO hS nd mem hos hss non co cc cs hP
  go_enter Ybaz.func48, Ybaz.ntmps48
  go_wp2_with fail
  clear hmk
  obtain ⟨b0, hb0⟩ : ∃ z, z = w.heap.size := ⟨_, rfl⟩
  obtain ⟨W1, hW1⟩ : ∃ z : World, z = (w.alloc (.cells (zeros (.int .i64 0) m).toArray 3)).alloc (.cells #[.slice (some ⟨w.heap.size, 0, none⟩) m m] 83) := ⟨_, rfl⟩
  have M0 : MarksAt b0 m (List.replicate m 0) W1 := by
    rw [hW1, hb0]
    exact MarksAt.keeps _ _ _ _ _ [] (MarksAt.made w m (by omega)) (Upd.alloc _ _ _) (by simp)
  have c1 : W1.cell? ⟨b0 + 1, 0, none⟩ = some (.slice (some ⟨b0, 0, none⟩) m m) := by
    rw [hW1, hb0]
    have := (Blk.new (w.alloc (.cells (zeros (.int .i64 0) m).toArray 3)) #[.slice (some ⟨w.heap.size, 0, none⟩) m m] 83).cell 0
    simp at this ⊢
  have U01 : Upd [] w W1 := by rw [hW1]; exact (Upd.alloc [] _ _).trans (Upd.alloc [] _ _) (by simp)
  have z1 : W1.heap.size = b0 + 2 := by rw [hW1, hb0]; simp
  rw [← hW1, ← hb0]
  have hb0' : b0 = w.heap.size := hb0
  have HB0 : Hid (b0 = w.heap.size) := hb0
  clear hW1 hb0 cn hb0'
  have UU1 : Hid (Upd [] w W1) := U01
  have C1 : Hid (W1.cell? ⟨b0 + 1, 0, none⟩ = some (.slice (some ⟨b0, 0, none⟩) m m)) := c1
  clear U01 c1
  refine wp_loopC [none, none, none, none, none, none, some none, some none, none, none, none, none, none, none, none, none, none, none, none, none, none, none, none, none, none, none, none, none, none, none, none, some (some false), some none, some none, some none, some none, some none, some none, some none, some none, some none, none, none, none, none, none, none, none, none, none, none, none, none, none, none, none, none, none, none, none, none, none, none, none, none, none, none, none, none, none, none, none, none, none, none, none, none, none, none, none, none, none, none, none, none, none, none, none, none, none, none, none, none, none, none, none, none, none, none, none, none, none, none, none, none, none, none, none, none, none, none, none, none, none, none, none, none, none, none, none, none, none, none, none, none, none, none, none, none, none, none, none, none, none, none, none, none, none, none, none, none, none, none, none, none, none, none, none, none, none, none, none, none, none, none, none, none, none, none, none, none, none, none, none, none, none, none, none, none, none, none, none, none] (fun n1 t31 _ wr => ∃ (i : Nat) (M : List Nat), i ≤ P.length ∧ n1 = P.length - i ∧ t31 = .int .i64 i ∧ Upd [b0] W1 wr ∧ MarksAt b0 m M wr ∧ M.length = m ∧ (∀ j t : Nat, j < i → P[j]? = some t → M[t]? = some j)) P.length (.int .i64 0) undef rfl ⟨0, _, by omega, by omega, rfl, Upd.refl _ _, M0, by simp, fun j t h => by omega⟩ ?_
  intro n1 uu x1 y1 wr J1 K1 hrel hJ1 hK1
  obtain ⟨i, M, hi1, rfl, rfl, h1, h2, h3, h4⟩ := hrel
  have HJ1 : Hid _ := hJ1
  have U1 : Hid (Upd [b0] W1 wr) := h1
  have MA : Hid _ := h2
  have HM : Hid (∀ j t : Nat, j < i → P[j]? = some t → M[t]? = some j) := h4
  clear hJ1 h1 h2 h4 M0
  dsimp only [fillC, Nat.reduceAdd]
  have BW : Hid (Below w.heap.size w wr) := (UU1.out.below (Nat.le_refl _) (by simp)).trans (U1.out.below (by have := HB0.out; omega) (by have := HB0.out; simp; omega))
  by_cases hlti : i < P.length
  · as_aux_lemma =>
    obtain ⟨t, ht⟩ := has_at P hlti
    have HT : Hid (P[i]? = some t) := ht
    have htm : t < m := (MEM.out t).mp (List.mem_of_getElem? ht)
    obtain ⟨bp, ea, _, cp0⟩ := HP.out.get (j := i) (v := nI t) (by simp [ht])
    have cp : wr.cell? ⟨bp, i, none⟩ = some (.int .i64 t) := (BW.out.cell (World.block_lt_of_cell? _ _ cp0)).trans cp0
    have SA : Hid (aP = some ⟨bp, 0, none⟩) := ea
    have c1 : wr.cell? ⟨b0 + 1, 0, none⟩ = some (.slice (some ⟨b0, 0, none⟩) m m) := U1.out.cell C1.out (by simp)
    obtain ⟨v0, hv0⟩ := has_at M (k := t) (by omega)
    obtain ⟨cm, zm⟩ := MarksAt.get MA.out hv0
    have MA2 : Hid _ := MarksAt.set MA.out t i
    rw [ea]
    clear ht ea cp0 hv0
    go_wp2_with fail
    refine Met.intro ?_
    have HJ5 := HJ1.out
    rw [SA.out] at HJ5
    refine HJ5 _ _ ?_
    refine EndC.of (P.length - (i + 1)) (.int .i64 ((i : Int) + 1)) undef ?_ (by omega) ?_
    · rfl
    refine ⟨i + 1, M.set t i, by omega, rfl, by go_num, U1.out.trans (Upd.store _ _ _ _) (by simp), MA2.out, by simpa using h3, fun j t' hj ht' => ?_⟩
    by_cases e : t = t'
    · subst e
      have : j = i := nodup_at ND.out ht' HT.out
      subst this
      exact List.getElem?_set_self (by omega)
    · rw [List.getElem?_set_ne e]
      refine HM.out j t' ?_ ht'
      rcases Nat.lt_or_ge j i with h | h
      · exact h
      · have : j = i := by omega
        subst this
        rw [HT.out] at ht'; injection ht' with ht'; exact absurd ht' e
  · as_aux_lemma =>
    have CP : Hid (∀ t, t < m → wr.cell? ⟨b0, t, none⟩ = some (.int .i64 (P.idxOf t : Nat))) := fun t ht => by
      have hx := at_idxOf ((MEM.out t).mpr ht)
      have hl := (List.getElem?_eq_some_iff.mp hx).1
      exact (MarksAt.get MA.out (HM.out _ t (by omega) hx)).1
    have c1 : wr.cell? ⟨b0 + 1, 0, none⟩ = some (.slice (some ⟨b0, 0, none⟩) m m) := U1.out.cell C1.out (by simp)
    have CB1 : Hid (wr.cell? ⟨b0 + 1, 0, none⟩ = some (.slice (some ⟨b0, 0, none⟩) m m)) := c1
    have hszr := U1.out.size
    have d5 : ∀ o', (wr.alloc o').cell? ⟨d, 5, none⟩ = some (.slice og.a os.length og.c) := fun o' => (Upd.alloc [] wr o').cell ((BW.out.cell hd).trans CO.out) (by simp)
    have d5b : ∀ o' o'', ((wr.alloc o').alloc o'').cell? ⟨d, 5, none⟩ = some (.slice og.a os.length og.c) := fun o' o'' => (Upd.alloc [] _ o'').cell (d5 o') (by simp)
    have hmk := mkRows.made os.length os.length (Nat.le_refl _) (by omega) (by decide)
    clear MA HM h3 c1
    go_upto_region 9 with fail
    clear hmk
    obtain ⟨b2, hb2⟩ : ∃ z, z = wr.heap.size := ⟨_, rfl⟩
    obtain ⟨W3, hW3⟩ : ∃ z : World, z = (wr.alloc (.cells #[.func (.func 76) #[] #[.pointer (some ⟨b0 + 1, 0, none⟩)]] 131)).alloc (.cells (zeros (.slice none 0 0) os.length).toArray 83) := ⟨_, rfl⟩
    rename_i Kz hKz _ _
    have HKz : Hid _ := hKz
    clear hKz
    have BK : Blk W3 (b2 + 1) 83 (zeros (.slice none 0 0) os.length).toArray := by
      have := Blk.new (wr.alloc (.cells #[.func (.func 76) #[] #[.pointer (some ⟨b0 + 1, 0, none⟩)]] 131)) (zeros (.slice none 0 0) os.length).toArray 83
      rw [hW3, hb2]
      simpa using this
    have U3 : Upd [] wr W3 := by rw [hW3]; exact (Upd.alloc [] _ _).trans (Upd.alloc [] _ _) (by simp)
    have z3 : W3.heap.size = b2 + 2 := by rw [hW3, hb2]; simp
    have C2 : Hid (W3.cell? ⟨b2, 0, none⟩ = some (.func (.func 76) #[] #[.pointer (some ⟨b0 + 1, 0, none⟩)])) := by
      have := (Blk.new wr #[.func (.func 76) #[] #[.pointer (some ⟨b0 + 1, 0, none⟩)]] 131).cell 0
      show W3.cell? ⟨b2, 0, none⟩ = _
      rw [hW3, hb2]
      exact (Upd.alloc [] _ _).cell this (by simp)
    have d53 : W3.cell? ⟨d, 5, none⟩ = some (.slice og.a os.length og.c) := U3.cell ((BW.out.cell hd).trans CO.out) (by simp)
    have hb2w : w.heap.size ≤ b2 := by rw [hb2]; exact BW.out.size
    have B3 : Hid (Below w.heap.size w W3) := BW.out.trans (U3.below BW.out.size (by simp))
    have CB3 : Hid (W3.cell? ⟨b0 + 1, 0, none⟩ = some (.slice (some ⟨b0, 0, none⟩) m m)) := U3.cell CB1.out (by simp)
    have CP3 : Hid (∀ t, t < m → W3.cell? ⟨b0, t, none⟩ = some (.int .i64 (P.idxOf t : Nat))) := fun t ht => U3.cell (CP.out t ht) (by simp)
    have hb02 : b0 + 1 < b2 := by rw [hb2]; omega
    rw [← hW3, ← hb2]
    clear hW3 hb2 d5 d5b CP CB1
    go_wp2_with fail
    clear d53
    refine wp_loopC [none, none, none, none, none, none, none, none, none, none, some none, some none, some none, none, none, none, none, none, none, none, none, none, none, none, none, none, none, none, none, none, none, none, none, none, none, none, none, none, none, none, none, none, none, none, none, none, none, none, none, none, none, none, none, some (some false), some none, some none, some none, some none, some none, some none, some none, some none, some none, some none, some none, some none, some none, some none, some none, some none, some none, some none, some none, some none, some none, some none, some none, some none, some none, some none, some none, some none, some none, some none, some none, some none, none, none, none, none, none, none, none, none, none, none, none, none, none, none, none, none, none, none, none, none, none, none, none, none, none, none, none, none, none, none, none, none, none, none, none, none, none, none, none, none, none, none, none, none, none, none, none, none, none, none, none, none, none, none, none, none, none, none, none, none, none, none, none, none, none, none, none, none, none, none, none, none, none, none, none, none, none, none, none, none, none, none, none, none, none, none, none] (fun n2 t53 _ wr => ∃ x : Nat, x ≤ os.length ∧ n2 = os.length - x ∧ t53 = .int .i64 x ∧ Upd [b2 + 1] W3 wr ∧ (∀ (y : Nat) (o : Ob), y < x → os[y]? = some o → PwRow (b2 + 1) P y o wr) ∧ (∀ y, x ≤ y → y < os.length → wr.cell? ⟨b2 + 1, y, none⟩ = some (.slice none 0 0)) ∧ (∀ y, wr.frozen? ⟨b2 + 1, y, none⟩ = false)) os.length (.int .i64 0) undef rfl ⟨0, by omega, by omega, rfl, Upd.refl _ _, fun y o h => by omega, fun y _ hy => (BK.cell y).trans (by rw [zeros_one _ rfl]; simp [hy]), fun y => BK.free y⟩ ?_
    intro n2 uv x2 y2 wr2 J2 K2 hrel hJ2 hK2
    obtain ⟨x, hx1, rfl, rfl, h1, h2, h3, h4⟩ := hrel
    have HJ2 : Hid _ := hJ2
    have UU2 : Hid (Upd [b2 + 1] W3 wr2) := h1
    have ROWS : Hid (∀ (y : Nat) (o : Ob), y < x → os[y]? = some o → PwRow (b2 + 1) P y o wr2) := h2
    have ZR : Hid (∀ y, x ≤ y → y < os.length → wr2.cell? ⟨b2 + 1, y, none⟩ = some (.slice none 0 0)) := h3
    have FZ : Hid (∀ y, wr2.frozen? ⟨b2 + 1, y, none⟩ = false) := h4
    have hsz2 : b2 + 1 < wr2.heap.size := by have := h1.size; omega
    clear hJ2 h1 h2 h3 h4 BK
    dsimp only [fillC, Nat.reduceAdd]
    have B2w : Hid (Below w.heap.size w wr2) := B3.out.trans (UU2.out.below B3.out.size (by simp; omega))
    by_cases hltx : x < os.length
    · as_aux_lemma =>
      obtain ⟨o, ho⟩ := has_at os hltx
      have OX : Hid (os[x]? = some o) := ho
      obtain ⟨ho1, ho2, ho3⟩ := HOS.out o (List.mem_of_getElem? ho)
      have OW1 : Hid (∀ t ∈ o.wr, t < m) := ho1
      obtain ⟨bO, s0, s1, s2, f0, f1, p1, p2, p3, p4, p5, p6, p7, p8, p9, p10⟩ := HO.out.at ho
      rw [p5] at p2 p6
      have x0 : wr2.cell? ⟨bO, x * 3, none⟩ = some (.slice s0.a o.wr.length s0.c) := (B2w.out.cell (World.block_lt_of_cell? _ _ p2)).trans p2
      have x1 : wr2.cell? ⟨bO, x * 3 + 1, none⟩ = some (.slice s1.a s1.n s1.c) := (B2w.out.cell (World.block_lt_of_cell? _ _ p3)).trans p3
      have x2 : wr2.cell? ⟨bO, x * 3 + 2, none⟩ = some (.slice s2.a s2.n s2.c) := (B2w.out.cell (World.block_lt_of_cell? _ _ p4)).trans p4
      have WS : Hid (Sl w 3 1 s0.a o.wr.length s0.c f0 (o.wr.map nI)) := p6
      have SA : Hid (og.a = some ⟨bO, 0, none⟩) := p1
      have zr := ZR.out x (Nat.le_refl _) hltx
      have fz := FZ.out x
      have hsz3 : b2 + 1 < wr2.heap.size + 1 := by omega
      have hmk := mkInts.made o.wr.length o.wr.length (Nat.le_refl _) (by omega) (by decide)
      rw [p1]
      clear ho ho1 p1 p2 p3 p4 p5 p6 p7 p8 p9 p10
      go_upto_region 13 with fail
      clear hmk x0 x1 x2
      obtain ⟨bq, hbq⟩ : ∃ z, z = wr2.heap.size := ⟨_, rfl⟩
      obtain ⟨W6, hW6⟩ : ∃ z : World, z = ((wr2.setCell ⟨b2 + 1, x, none⟩ (.slice (some ⟨wr2.heap.size + 1, 0, none⟩) o.wr.length o.wr.length)).alloc (.cells #[.slice s0.a o.wr.length s0.c, .slice s1.a s1.n s1.c, .slice s2.a s2.n s2.c] 139)).alloc (.cells (zeros (.int .i64 0) o.wr.length).toArray 3) := ⟨_, rfl⟩
      have zs1 : (wr2.setCell ⟨b2 + 1, x, none⟩ (.slice (some ⟨wr2.heap.size + 1, 0, none⟩) o.wr.length o.wr.length)).heap.size = wr2.heap.size := by simp [World.setCell]
      have U6 : Upd [b2 + 1] wr2 W6 := by
        rw [hW6]
        exact ((Upd.store _ _ _ _).trans (Upd.alloc [] _ _) (by simp)).trans (Upd.alloc [] _ _) (by simp)
      have z6 : W6.heap.size = bq + 2 := by rw [hW6, hbq]; simp [World.setCell]
      have cq6 : W6.cell? ⟨bq, 0, none⟩ = some (.slice s0.a o.wr.length s0.c) := by
        have := (Blk.new (wr2.setCell ⟨b2 + 1, x, none⟩ (.slice (some ⟨wr2.heap.size + 1, 0, none⟩) o.wr.length o.wr.length)) #[.slice s0.a o.wr.length s0.c, .slice s1.a s1.n s1.c, .slice s2.a s2.n s2.c] 139).cell 0
        rw [zs1] at this
        rw [hW6, hbq]
        exact (Upd.alloc [] _ _).cell this (by simp)
      have cr6 : W6.cell? ⟨b2 + 1, x, none⟩ = some (.slice (some ⟨bq + 1, 0, none⟩) o.wr.length o.wr.length) := by
        rw [hW6, hbq]
        exact (Upd.alloc [] _ _).cell ((Upd.alloc [] _ _).cell (set_same zr) (by simp)) (by simp)
      have M6 : MarksAt (bq + 1) o.wr.length (List.replicate o.wr.length 0) W6 := by
        have := MarksAt.made ((wr2.setCell ⟨b2 + 1, x, none⟩ (.slice (some ⟨wr2.heap.size + 1, 0, none⟩) o.wr.length o.wr.length)).alloc (.cells #[.slice s0.a o.wr.length s0.c, .slice s1.a s1.n s1.c, .slice s2.a s2.n s2.c] 139)) o.wr.length (by omega)
        rw [hW6, hbq]
        simpa [World.setCell] using this
      have SETO : Hid (∀ (y : Nat) (v : Value), y ≠ x → wr2.cell? ⟨b2 + 1, y, none⟩ = some v → W6.cell? ⟨b2 + 1, y, none⟩ = some v) := fun y v hy hv => by
        rw [hW6]
        exact (Upd.alloc [] _ _).cell ((Upd.alloc [] _ _).cell (set_other hv (.inr (fun e => hy e.symm))) (by simp)) (by simp)
      have FRZ : Hid (∀ y, W6.frozen? ⟨b2 + 1, y, none⟩ = false) := fun y => by
        rw [hW6]
        exact (Upd.alloc [] _ _).free (by simp [World.setCell]; omega) ((Upd.alloc [] _ _).free (by simp [World.setCell]; omega) (set_free (FZ.out y)) (by simp)) (by simp)
      rw [← hW6, ← hbq]
      have hbq2 : b2 + 1 < bq := by rw [hbq]; exact hsz2
      have HBQ : Hid (bq = wr2.heap.size) := hbq
      have U6H : Hid (Upd [b2 + 1] wr2 W6) := U6
      have CQ6 : Hid (W6.cell? ⟨bq, 0, none⟩ = some (.slice s0.a o.wr.length s0.c)) := cq6
      have CR6 : Hid (W6.cell? ⟨b2 + 1, x, none⟩ = some (.slice (some ⟨bq + 1, 0, none⟩) o.wr.length o.wr.length)) := cr6
      have Z6 : Hid (W6.heap.size = bq + 2) := z6
      clear hW6 hbq zs1 U6 z6 cr6 zr fz hsz3
      go_wp2_with fail
      clear cq6
      refine wp_loopC [none, none, none, none, none, none, none, none, none, none, none, none, some none, none, none, none, none, none, none, none, none, none, none, none, none, none, none, none, none, none, none, none, none, none, none, none, none, none, none, none, none, none, none, none, none, none, none, none, none, none, none, none, none, none, none, none, none, none, none, none, none, none, none, none, none, none, none, none, some (some false), some none, some none, some none, some none, some none, some none, some none, some none, some none, some none, none, none, none, none, none, none, none, none, none, none, none, none, none, none, none, none, none, none, none, none, none, none, none, none, none, none, none, none, none, none, none, none, none, none, none, none, none, none, none, none, none, none, none, none, none, none, none, none, none, none, none, none, none, none, none, none, none, none, none, none, none, none, none, none, none, none, none, none, none, none, none, none, none, none, none, none, none, none, none, none, none, none, none, none, none, none, none, none, none, none, none, none, none, none] (fun n3 t68 _ wr => ∃ (i : Nat) (M : List Nat), i ≤ o.wr.length ∧ n3 = o.wr.length - i ∧ t68 = .int .i64 i ∧ Upd [bq + 1] W6 wr ∧ MarksAt (bq + 1) o.wr.length M wr ∧ M.length = o.wr.length ∧ M.take i = List.range i) o.wr.length (.int .i64 0) undef rfl ⟨0, _, by omega, by omega, rfl, Upd.refl _ _, M6, by simp, by simp⟩ ?_
      intro n3 ux x3 y3 wr3 J3 K3 hrel hJ3 hK3
      obtain ⟨i3, M, hi3, rfl, rfl, h1, h2, h3, h4⟩ := hrel
      have HJ3 : Hid _ := hJ3
      have U36 : Hid (Upd [bq + 1] W6 wr3) := h1
      have MA : Hid (MarksAt (bq + 1) o.wr.length M wr3) := h2
      have HM : Hid (M.take i3 = List.range i3) := h4
      clear hJ3 h1 h2 h4 M6
      dsimp only [fillC, Nat.reduceAdd]
      have cr3 : wr3.cell? ⟨b2 + 1, x, none⟩ = some (.slice (some ⟨bq + 1, 0, none⟩) o.wr.length o.wr.length) := U36.out.cell CR6.out (by simp; omega)
      by_cases hlt3 : i3 < o.wr.length
      · as_aux_lemma =>
        obtain ⟨v0, hv0⟩ := has_at M (k := i3) (by omega)
        obtain ⟨cm, zm⟩ := MarksAt.get MA.out hv0
        have MA2 : Hid (MarksAt (bq + 1) o.wr.length (M.set i3 i3) (wr3.setCell ⟨bq + 1, i3, none⟩ (.int .i64 i3))) := MarksAt.set MA.out i3 i3
        clear hv0
        go_wp2_with fail
        refine Met.intro ?_
        refine HJ3.out _ _ ?_
        refine EndC.of (o.wr.length - (i3 + 1)) (.int .i64 ((i3 : Int) + 1)) undef ?_ (by omega) ?_
        · rfl
        refine ⟨i3 + 1, M.set i3 i3, by omega, rfl, by go_num, U36.out.trans (Upd.store _ _ _ _) (by simp), MA2.out, by simpa using h3, ?_⟩
        rw [List.take_add_one, List.getElem?_set_self (by omega), List.take_set_of_le (Nat.le_refl _), HM.out, List.range_succ]
        rfl
      · as_aux_lemma =>
        have hM : M = List.range o.wr.length := by
          have := HM.out
          rw [show i3 = M.length by omega, List.take_length] at this
          rw [this, h3]
        have U32 : Hid (Upd [b2 + 1] wr2 wr3) := U6H.out.trans U36.out (by have := HBQ.out; simp; omega)
        have SS : Sl wr3 3 1 (some ⟨bq + 1, 0, none⟩) o.wr.length o.wr.length [bq + 1] ((List.range o.wr.length).map nI) := by rw [← hM]; exact MA.out
        have KS : Hid _ := sort68 o.wr.length (by omega) (fun i => P.idxOf (o.wr.getD i 0)) wr3 (bq + 1) o.wr.length #[.pointer (some ⟨b2, 0, none⟩), .pointer (some ⟨bq, 0, none⟩)] SS (fun W hW i j hi hj => by
          obtain ⟨ti, hti⟩ := has_at o.wr hi
          obtain ⟨tj, htj⟩ := has_at o.wr hj
          have hgi : o.wr.getD i 0 = ti := by simp [hti]
          have hgj : o.wr.getD j 0 = tj := by simp [htj]
          have hmi := OW1.out ti (List.mem_of_getElem? hti)
          have hmj := OW1.out tj (List.mem_of_getElem? htj)
          have UW : Upd [b2 + 1] wr2 W := U32.out.trans hW (by have := HBQ.out; simp; omega)
          have BWW : Below w.heap.size w W := B2w.out.trans (UW.below B2w.out.size (by simp; omega))
          obtain ⟨bw, e1, _, e3⟩ := WS.out.get (j := i) (v := nI ti) (by simp [hti])
          obtain ⟨bw', e1', _, e3'⟩ := WS.out.get (j := j) (v := nI tj) (by simp [htj])
          rw [e1] at e1'; injection e1' with e1'; injection e1' with e1'; subst e1'
          have c36 : W.cell? ⟨bq, 0, none⟩ = some (.slice (some ⟨bw, 0, none⟩) o.wr.length s0.c) := by
            have := CQ6.out; rw [e1] at this
            exact hW.cell (U36.out.cell this (by simp)) (by simp)
          have := cmp77 W (b0 + 1) b0 m m (by omega) (UW.cell (UU2.out.cell CB3.out (by simp; omega)) (by simp; omega)) b2 bq (UW.cell (UU2.out.cell C2.out (by simp)) (by simp)) bw o.wr.length s0.c (by omega) c36 i j ti tj (P.idxOf ti) (P.idxOf tj) hi hj hmi hmj ((BWW.cell (World.block_lt_of_cell? _ _ e3)).trans e3) ((BWW.cell (World.block_lt_of_cell? _ _ e3')).trans e3') (UW.cell (UU2.out.cell (CP3.out ti hmi) (by simp; omega)) (by simp; omega)) (UW.cell (UU2.out.cell (CP3.out tj hmj) (by simp; omega)) (by simp; omega))
          simp only [hgi, hgj]
          exact this)
        clear SS hM
        go_wp2_with fail
        refine Calls.mono KS.out ?_
        rintro e' w7 ⟨rfl, zs, k1, k2, k3, k4⟩
        have K1' : Hid (zs.Perm (List.range o.wr.length)) := k1
        have K2' : Hid (∀ i j a b : Nat, i < j → zs[i]? = some a → zs[j]? = some b → ¬ P.idxOf (o.wr.getD b 0) < P.idxOf (o.wr.getD a 0)) := k2
        have K3' : Hid (MarksAt (bq + 1) o.wr.length zs w7) := k3
        have K4' : Hid (Upd [bq + 1] wr3 w7) := k4
        clear k1 k2 k3 k4 KS cr3
        go_wp2_with fail
        refine Met.intro ?_
        have HJ5 := HJ2.out
        rw [SA.out] at HJ5
        refine HJ5 _ _ ?_
        refine EndC.of (os.length - (x + 1)) (.int .i64 ((x : Int) + 1)) undef ?_ (by omega) ?_
        · rfl
        have UF : Upd [b2 + 1] wr2 w7 := U32.out.trans K4'.out (by have := HBQ.out; simp; omega)
        have cr7 : w7.cell? ⟨b2 + 1, x, none⟩ = some (.slice (some ⟨bq + 1, 0, none⟩) o.wr.length o.wr.length) := K4'.out.cell (U36.out.cell CR6.out (by simp; omega)) (by simp; omega)
        refine ⟨x + 1, by omega, rfl, by go_num, UU2.out.trans UF (by simp), fun y oy hy hoy => ?_, fun y h1 h2 => ?_, fun y => ?_⟩
        · by_cases e : y = x
          · subst e
            rw [OX.out] at hoy; cases hoy
            exact ⟨bq + 1, zs, cr7, by omega, K1'.out, K2'.out, fun j z hz => (MarksAt.get K3'.out hz).1⟩
          · obtain ⟨rb, zy, r1, r2, r3, r4, r5⟩ := ROWS.out y oy (by omega) hoy
            refine ⟨rb, zy, ?_, r2, r3, r4, fun j z hz => UF.cell (r5 j z hz) (by simp; omega)⟩
            exact K4'.out.cell (U36.out.cell (SETO.out y _ e r1) (by simp; omega)) (by simp; omega)
        · exact K4'.out.cell (U36.out.cell (SETO.out y _ (by omega) (ZR.out y (by omega) h2)) (by simp; omega)) (by simp; omega)
        · exact K4'.out.free (by have := U36.out.size; have := Z6.out; omega) (U36.out.free (by have := Z6.out; omega) (FRZ.out y) (by simp; omega)) (by simp; omega)
    · as_aux_lemma =>
      go_wp2_with fail
      refine HKz.out _ _ ?_
      exact tk20 w d b0 (b0 + 1) b2 (b2 + 1) m hm og os CO.out HO.out sg ss CS.out HS.out CC.out P ND.out MEM.out HOS.out HSS.out hlo hls NON.out wr2 B2w.out (UU2.out.cell CB3.out (by simp; omega)) (fun t ht => UU2.out.cell (CP3.out t ht) (by simp; omega)) (UU2.out.cell C2.out (by simp)) (fun y o hy => ROWS.out y o (by have := (List.getElem?_eq_some_iff.mp hy).1; omega) hy)
end Go.Proofs.YbulkctquGreatFmt
