/-
  precedeInitial, walked.
-/
import Derived.Test.YbulkctquGreatFmtInit
import Derived.Deep.RegionWith
namespace Go.Proofs.YbulkctquGreatFmt
open Go.ChangeShapes Go.WideShapes Go.ChangeAt Go.RowKit Go.Ord
set_option linter.unusedVariables false

theorem pairs_len (b : Nat) (ts : List Nat) : ∀ G, (pairs G b ts).length = G.length := by
  induction ts with
  | nil => intro G; rfl
  | cons t ts ih => intro G; simp only [pairs, List.foldl_cons] at ih ⊢; rw [ih, arc_len, arc_len]
theorem pairs_wt (b : Nat) (ts : List Nat) : ∀ G, wt (pairs G b ts) ≤ wt G + 2 * ts.length := by
  induction ts with
  | nil => intro G; exact Nat.le_refl _
  | cons t ts ih =>
    intro G
    simp only [pairs, List.foldl_cons, List.length_cons] at ih ⊢
    have h1 := ih (arc (arc G t b) b t)
    have h2 := wt_arc_le (arc G t b) b t
    have h3 := wt_arc_le G t b
    omega
theorem othersG_size (G : List (List Nat)) (ts us : List Nat) (n : Nat) (h1 : ts.length ≤ n) (h2 : us.length ≤ n) (hn : n ≤ 100) :
    G.length ≤ (othersG G ts us).length ∧ (othersG G ts us).length + wt (othersG G ts us) ≤ G.length + wt G + 70000 := by
  have la : (onlyOf ts us).length ≤ ts.length := List.length_filter_le _ _
  have lb : (bothOf ts us).length ≤ ts.length := List.length_filter_le _ _
  have lc : (onlyOf us ts).length ≤ us.length := List.length_filter_le _ _
  have a1 := joinG_len G (onlyOf ts us) us
  have a2 := joinG_wt G (onlyOf ts us) us
  have b1 := joinG_len (joinG G (onlyOf ts us) us) (bothOf ts us) (onlyOf us ts)
  have b2 := joinG_wt (joinG G (onlyOf ts us) us) (bothOf ts us) (onlyOf us ts)
  have c1 := pairs_len ((bothOf ts us).headD 0) ((bothOf ts us).drop 1) (joinG (joinG G (onlyOf ts us) us) (bothOf ts us) (onlyOf us ts))
  have c2 := pairs_wt ((bothOf ts us).headD 0) ((bothOf ts us).drop 1) (joinG (joinG G (onlyOf ts us) us) (bothOf ts us) (onlyOf us ts))
  have m1 : ((onlyOf ts us).length + 1) * (us.length + 1) ≤ 101 * 101 := Nat.mul_le_mul (by omega) (by omega)
  have m2 : ((bothOf ts us).length + 1) * ((onlyOf us ts).length + 1) ≤ 101 * 101 := Nat.mul_le_mul (by omega) (by omega)
  simp only [List.length_drop] at c2
  unfold othersG
  omega

theorem Tells.drew {w : World} {gf : Nat} {lb : Array Value} {xs us : List Nat} (h : Tells w gf lb xs us) : Tells w.drew gf lb xs us :=
  fun W t ht hb => h W t ht ⟨hb.os, hb.tape, hb.output, hb.size, hb.block⟩

/-- The call's own memory in precedeInitial: two rows of marks and their boxes. -/
structure Two2 (N n : Nat) (w : World) (M1 M2 : List Nat) : Prop where
  s1 : Sl w 3 1 (some ⟨N, 0, none⟩) n n [N] (M1.map nI)
  s2 : Sl w 3 1 (some ⟨N + 2, 0, none⟩) n n [N + 2] (M2.map nI)
  b1 : w.cell? ⟨N + 1, 0, none⟩ = some (.slice (some ⟨N, 0, none⟩) n n)
  b2 : w.cell? ⟨N + 3, 0, none⟩ = some (.slice (some ⟨N + 2, 0, none⟩) n n)
theorem Two2.keep {N n : Nat} {w w' : World} {M1 M2 : List Nat} (h : Two2 N n w M1 M2) {S : List Nat} (hu : Upd S w w') (hn : ∀ k ∈ S, k < N ∨ N + 4 ≤ k) : Two2 N n w' M1 M2 := by
  have q : ∀ j, j < 4 → N + j ∉ S := fun j hj hm => by have := hn _ hm; omega
  exact ⟨h.s1.keep hu (by simpa using q 0 (by omega)), h.s2.keep hu (by simpa using q 2 (by omega)), hu.cell h.b1 (q 1 (by omega)), hu.cell h.b2 (q 3 (by omega))⟩

theorem Two2.put1 {N n : Nat} {w : World} {M1 M2 : List Nat} (h : Two2 N n w M1 M2) (t v : Nat) : Two2 N n (w.setCell ⟨N, t, none⟩ (nI v)) (M1.set t v) M2 := by
  have U := Upd.store w N t (nI v)
  have s := h.s1.store t (nI v)
  rw [← List.map_set] at s
  exact ⟨s, h.s2.keep U (by simp), U.cell h.b1 (by simp), U.cell h.b2 (by simp)⟩
theorem Two2.put2 {N n : Nat} {w : World} {M1 M2 : List Nat} (h : Two2 N n w M1 M2) (t v : Nat) : Two2 N n (w.setCell ⟨N + 2, t, none⟩ (nI v)) M1 (M2.set t v) := by
  have U := Upd.store w (N + 2) t (nI v)
  have s := h.s2.store t (nI v)
  rw [← List.map_set] at s
  exact ⟨h.s1.keep U (by simp), s, U.cell h.b1 (by simp), U.cell h.b2 (by simp)⟩

set_option maxRecDepth 100000 in
set_option maxHeartbeats 4000000 in
theorem init_any (w : World) (d : Nat) (g : GG) (G : List (List Nat)) (J : List Bool) (h : Gr w d 2 g G J) (aN : Option Addr) (n cN : Nat) (cn : w.cell? ⟨d, 0, none⟩ = some (.slice aN n cN))
    (og : OG) (os : List Ob) (co : w.cell? ⟨d, 5, none⟩ = some (.slice og.a os.length og.c)) (hO : Objs w og os) (dis : ∀ k ∈ og.foot, k ∉ d :: g.foot) (hn : n ≤ G.length) (hn2 : n ≤ 100)
    (hos : ∀ o ∈ os, (∀ t ∈ o.ini, t < n) ∧ (∀ t ∈ o.wr, t < n) ∧ o.ini.length ≤ n ∧ o.wr.length ≤ n) (hl : os.length < 1000) (hw : G.length + wt G + os.length * 70000 + 70000 < 100000000) :
    Calls Ybaz.prog 38 #[.pointer (some ⟨d, 0, none⟩)] w fun e w' => e = .returned (.tuple #[]) ∧ ∃ g', Gr w' d 2 g' (initG G os) (initJ J os) ∧ Grew d w w' g g' := by
  have hd := h.lt
  have hd1 : d < w.heap.size + 1 := by omega
  have hd2 : d < w.heap.size + 1 + 1 := by omega
  have hd3 : d < w.heap.size + 1 + 1 + 1 := by omega
  have HG : Hid _ := h
  have HO : Hid _ := hO
  have DIS : Hid _ := dis
  have HOS : Hid _ := hos
  have hm := mkInts.made n n (Nat.le_refl _) (by omega) (by decide)
  clear h hO dis hos
  go_enter Ybaz.func38, Ybaz.ntmps38
  go_wp2_with fail
  have MM : Hid (Two2 w.heap.size n ((((w.alloc (.cells (zeros (.int .i64 0) n).toArray 3)).alloc (.cells #[.slice (some ⟨w.heap.size, 0, none⟩) n n] 83)).alloc (.cells (zeros (.int .i64 0) n).toArray 3)).alloc (.cells #[.slice (some ⟨w.heap.size + 1 + 1, 0, none⟩) n n] 83)) (List.replicate n 0) (List.replicate n 0)) := by
    have q1 := Sl.made w 3 (.int .i64 0) 1 n n (Nat.le_refl _) (by omega)
    have q2 := Sl.made ((w.alloc (.cells (zeros (.int .i64 0) n).toArray 3)).alloc (.cells #[.slice (some ⟨w.heap.size, 0, none⟩) n n] 83)) 3 (.int .i64 0) 1 n n (Nat.le_refl _) (by omega)
    rw [Nat.mul_one] at q1 q2
    have q3 := ((q1.keep (Upd.alloc [] _ (.cells #[.slice (some ⟨w.heap.size, 0, none⟩) n n] 83)) (by simp)).keep (Upd.alloc [] _ (.cells (zeros (.int .i64 0) n).toArray 3)) (by simp)).keep (Upd.alloc [] _ (.cells #[.slice (some ⟨w.heap.size + 1 + 1, 0, none⟩) n n] 83)) (by simp)
    have q4 := q2.keep (Upd.alloc [] _ (.cells #[.slice (some ⟨w.heap.size + 1 + 1, 0, none⟩) n n] 83)) (by simp)
    have e0 : zeros (.int .i64 0) n = (List.replicate n 0).map nI := by rw [zeros_one _ rfl, List.map_replicate]; rfl
    rw [e0] at q3 q4 ⊢
    refine ⟨q3, by simpa using q4, ?_, ?_⟩
    · have r := (Blk.new (w.alloc (.cells ((List.replicate n 0).map nI).toArray 3)) #[.slice (some ⟨w.heap.size, 0, none⟩) n n] 83)
      have r2 := ((r.keep (Upd.alloc [] _ (.cells ((List.replicate n 0).map nI).toArray 3)) (by simp)).keep (Upd.alloc [] _ (.cells #[.slice (some ⟨w.heap.size + 1 + 1, 0, none⟩) n n] 83)) (by simp)).cell 0
      simpa using r2
    · have r := (Blk.new (((w.alloc (.cells ((List.replicate n 0).map nI).toArray 3)).alloc (.cells #[.slice (some ⟨w.heap.size, 0, none⟩) n n] 83)).alloc (.cells ((List.replicate n 0).map nI).toArray 3)) #[.slice (some ⟨w.heap.size + 1 + 1, 0, none⟩) n n] 83).cell 0
      simpa using r
  clear hm
  have HW : Hid _ := hw
  clear hw
  go_loopw [28] (fun t28 wr => ∃ (x : Nat) (g' : GG) (G' : List (List Nat)) (J' : List Bool) (M1 M2 : List Nat), x ≤ os.length ∧ t28 = .int .i64 x ∧ Gr wr d 2 g' G' J' ∧ Grew d w wr g g' ∧ Two2 w.heap.size n wr M1 M2 ∧ Marks n (x + 1) M1 [] ∧ Marks n (x + 1) M2 [] ∧ (∀ k ∈ g'.foot, k < w.heap.size ∨ w.heap.size + 4 ≤ k) ∧ w.heap.size + 4 ≤ wr.heap.size ∧ G.length ≤ G'.length ∧ G'.length + wt G' ≤ G.length + wt G + x * 70000 ∧ initG G' (os.drop x) = initG G os ∧ initJ J' (os.drop x) = initJ J os) (fun i _ => os.length - (intOf i).toNat)
  case atStart =>
    have BB : Below w.heap.size w ((((w.alloc (.cells (zeros (.int .i64 0) n).toArray 3)).alloc (.cells #[.slice (some ⟨w.heap.size, 0, none⟩) n n] 83)).alloc (.cells (zeros (.int .i64 0) n).toArray 3)).alloc (.cells #[.slice (some ⟨w.heap.size + 1 + 1, 0, none⟩) n n] 83)) :=
      ((((Below.refl _ _).alloc (Nat.le_refl _) _).alloc (by simp) _).alloc (by simp; omega) _).alloc (by simp; omega) _
    have MR : Marks n (0 + 1) (List.replicate n 0) [] := by
      refine ⟨by simp, ?_⟩
      intro t v hv
      obtain ⟨_, rfl⟩ := List.mem_replicate.mp (List.mem_of_getElem? hv)
      simp
    exact ⟨0, g, G, J, _, _, by omega, rfl, HG.out.below BB, ⟨⟨BB.os, BB.tape, BB.output, BB.size, fun k hk _ => BB.block k hk⟩, fun k hk => .inl hk, rfl⟩, MM.out, MR, MR, fun k hk => .inl (HG.out.footLt k hk), by simp, by omega, by omega, rfl, rfl⟩
  case round =>
    obtain ⟨x, g', G', J', M1, M2, hx, rfl, h1, h2, h3, h4, h5, h6, h7, h8, h9, h10, h11⟩ := hrel
    have H1 : Hid _ := h1
    have K1 : Hid _ := h2
    have T1 : Hid _ := h3
    have A1 : Hid _ := h4
    have A2 : Hid _ := h5
    have F1 : Hid _ := h6
    have E1 : Hid _ := h10
    have E2 : Hid _ := h11
    have W1 : Hid _ := h9
    clear h1 h2 h3 h4 h5 h6 h10 h11 h9
    by_cases hlt : x < os.length
    · obtain ⟨ob, hob⟩ := has_at os hlt
      have hO1 := HO.out.keep K1.out.upd DIS.out
      obtain ⟨bO, s0, s1, s2, f0, f1, eO, c0, c1, c2, n0, l0, m0, n1, l1, m1⟩ := hO1.at hob
      obtain ⟨hi, hwr, hil, hwl⟩ := HOS.out ob (List.mem_of_getElem? hob)
      rw [eO]
      have HI : Hid _ := hi
      have HWR : Hid _ := hwr
      have L0 : Hid _ := l0
      have L1 : Hid _ := l1
      have M0 : Hid _ := m0
      have M1' : Hid _ := m1
      have HOB : Hid _ := hob
      have EO : Hid _ := eO
      have HO1 : Hid _ := hO1
      clear hi hwr l0 l1 m0 m1 hob eO hO1
      obtain ⟨wq, hwq⟩ : ∃ y : World, y = wr := ⟨_, rfl⟩
      subst hwq
      go_wp2_with fail
      obtain ⟨Wa, hWa⟩ : ∃ W : World, W = (wq.alloc (.cells #[.slice s0.a ob.wr.length s0.c, .slice s1.a ob.ini.length s1.c, .slice s2.a s2.n s2.c] 139)).alloc (.cells #[.int .i64 ((x : Int) + 1)] 3) := ⟨_, rfl⟩
      have UA : Upd [] wq Wa := by rw [hWa]; exact (Upd.alloc [] _ _).trans (Upd.alloc [] _ _) (by simp)
      have za : Wa.heap.size = wq.heap.size + 2 := by rw [hWa]; simp
      have k0 : Wa.cell? ⟨wq.heap.size, 0, none⟩ = some (.slice s0.a ob.wr.length s0.c) := by rw [hWa]; simp
      have k1 : Wa.cell? ⟨wq.heap.size, 1, none⟩ = some (.slice s1.a ob.ini.length s1.c) := by rw [hWa]; simp
      have k2 : Wa.cell? ⟨wq.heap.size + 1, 0, none⟩ = some (.int .i64 ((x : Int) + 1)) := by rw [hWa]; simp
      rw [← hWa]
      clear hWa c0 c1 c2
      have UA' : Hid _ := UA
      clear UA
      go_loopw [38] (fun t38 wx => ∃ (k : Nat) (Mk : List Nat), k ≤ ob.ini.length ∧ t38 = .int .i64 k ∧ Two2 w.heap.size n wx Mk M2 ∧ Marks n (x + 1) Mk (ob.ini.take k) ∧ Upd [w.heap.size] Wa wx) (fun i _ => ob.ini.length - (intOf i).toNat)
      case atStart => exact ⟨0, M1, by omega, rfl, T1.out.keep UA'.out (by simp), by simpa using A1.out, Upd.refl _ _⟩
      case round =>
        obtain ⟨k, Mk, hk, rfl, q1, q2, q3⟩ := hrel
        have Q1 : Hid _ := q1
        have Q2 : Hid _ := q2
        have Q3 : Hid _ := q3
        clear q1 q2 q3
        by_cases hlt2 : k < ob.ini.length
        · obtain ⟨t, ht⟩ := has_at ob.ini hlt2
          have htn := HI.out t (List.mem_of_getElem? ht)
          obtain ⟨b, eb, _, cb⟩ := ((L1.out.keep UA'.out (by simp)).keep Q3.out (by intro j hj hm; simp at hm; subst hm; have := HO.out.lt _ (M1'.out _ hj); omega)).get (j := k) (v := nI t) (by simp [ht])
          obtain ⟨gm, egm, _, _, cm, zm⟩ := Q1.out.s1.has (by omega)
          injection egm with egm
          injection egm with egm
          subst egm
          obtain ⟨v0, hv0⟩ := has_at Mk (k := t) (by rw [Q2.out.len]; exact htn)
          have cm1 := cm t (by omega)
          rw [show (Mk.map nI)[t]? = some (nI v0) by simp [hv0]] at cm1
          have zm1 := zm t
          have cb1 := Q1.out.b1
          have ck := Q3.out.cell k2 (by simp; omega)
          unfold nI at cb cm1
          rw [eb]
          have HTT : Hid _ := ht
          clear ht hv0 cm zm eb
          go_wp2_with fail
          have e1 : ob.ini.take (k + 1) = ob.ini.take k ++ [t] := by rw [List.take_add_one, HTT.out]; rfl
          exact ⟨⟨k + 1, Mk.set t (x + 1), by omega, by go_num, Q1.out.put1 t (x + 1), by rw [e1]; exact Q2.out.put t htn, Q3.out.trans (Upd.store _ _ _ _) (fun j hj => .inl hj)⟩, by simp [intOf]; omega⟩
        · have hk2 : k = ob.ini.length := by omega
          subst hk2
          have q2 := Q2.out
          rw [List.take_length] at q2
          have Q2' : Hid _ := q2
          clear q2 Q2
          obtain ⟨wb, hwb⟩ : ∃ y : World, y = wr := ⟨_, rfl⟩
          subst hwb
          have k0' := Q3.out.cell k0 (by simp; omega)
          have k1' := Q3.out.cell k1 (by simp; omega)
          have k2' := Q3.out.cell k2 (by simp; omega)
          have zb := Q3.out.size
          go_wp2_with fail
          go_loopw [50] (fun t50 wx => ∃ (k : Nat) (Mj : List Nat), k ≤ ob.wr.length ∧ t50 = .int .i64 k ∧ Two2 w.heap.size n wx Mk Mj ∧ Marks n (x + 1) Mj (ob.wr.take k) ∧ Upd [w.heap.size, w.heap.size + 2] Wa wx) (fun i _ => ob.wr.length - (intOf i).toNat)
          case atStart => exact ⟨0, M2, by omega, rfl, Q1.out, by simpa using A2.out, Q3.out.mono (fun j hj => .inl (by simp at hj; simp [hj]))⟩
          case round =>
            obtain ⟨k, Mj, hk, rfl, q1, q2, q3⟩ := hrel
            have R1 : Hid _ := q1
            have R2 : Hid _ := q2
            have R3 : Hid _ := q3
            clear q1 q2 q3
            by_cases hlt2 : k < ob.wr.length
            · obtain ⟨t, ht⟩ := has_at ob.wr hlt2
              have htn := HWR.out t (List.mem_of_getElem? ht)
              obtain ⟨b, eb, _, cb⟩ := ((L0.out.keep UA'.out (by simp)).keep R3.out (by intro j hj hm; have := HO.out.lt _ (M0.out _ hj); simp at hm; omega)).get (j := k) (v := nI t) (by simp [ht])
              obtain ⟨gm, egm, _, _, cm, zm⟩ := R1.out.s2.has (by omega)
              injection egm with egm
              injection egm with egm
              subst egm
              obtain ⟨v0, hv0⟩ := has_at Mj (k := t) (by rw [R2.out.len]; exact htn)
              have cm1 := cm t (by omega)
              rw [show (Mj.map nI)[t]? = some (nI v0) by simp [hv0]] at cm1
              have zm1 := zm t
              have cb1 := R1.out.b2
              have ck := R3.out.cell k2 (by simp; omega)
              unfold nI at cb cm1
              rw [eb]
              have HTT : Hid _ := ht
              clear ht hv0 cm zm eb
              go_wp2_with fail
              have e1 : ob.wr.take (k + 1) = ob.wr.take k ++ [t] := by rw [List.take_add_one, HTT.out]; rfl
              exact ⟨⟨k + 1, Mj.set t (x + 1), by omega, by go_num, R1.out.put2 t (x + 1), by rw [e1]; exact R2.out.put t htn, R3.out.trans (Upd.store _ _ _ _) (fun j hj => .inl (by simp at hj; simp [hj]))⟩, by simp [intOf]; omega⟩
            · have hk2 : k = ob.wr.length := by omega
              subst hk2
              have q2 := R2.out
              rw [List.take_length] at q2
              have R2' : Hid _ := q2
              clear q2 R2
              obtain ⟨wc, hwc⟩ : ∃ y : World, y = wr := ⟨_, rfl⟩
              subst hwc
              have k0'' := R3.out.cell k0 (by simp; omega)
              have k1'' := R3.out.cell k1 (by simp; omega)
              have k2'' := R3.out.cell k2 (by simp; omega)
              have zc := R3.out.size
              clear k0' k1' k2' k0 k1 k2
              go_wp2_with fail
              have UW : Upd [w.heap.size, w.heap.size + 2] wq wc := (UA'.out.mono (by simp)).trans R3.out (fun j hj => .inl hj)
              have hNd : d ∉ [w.heap.size, w.heap.size + 2] := by simp; omega
              have gL := H1.out.keep UW hNd (fun j hj hm => by have := F1.out j hj; simp at hm; omega)
              have apart : ∀ (f : List Nat), (∀ j ∈ f, j ∈ og.foot) → d ∉ f ∧ ∀ j ∈ f, j ∉ g'.foot := by
                intro f hf
                refine ⟨fun hm => DIS.out d (hf d hm) (by simp), fun j hj hm => ?_⟩
                rcases K1.out.foot j hm with h1 | h1
                · exact DIS.out j (hf j hj) (by simp [h1])
                · have := HO.out.lt j (hf j hj); omega
              have low : ∀ (f : List Nat), (∀ j ∈ f, j ∈ og.foot) → ∀ j ∈ f, j ∉ [w.heap.size, w.heap.size + 2] := by
                intro f hf j hj hm
                have := HO.out.lt j (hf j hj)
                simp at hm; omega
              have apI : Apart wc d g' s1.a ob.ini.length s1.c ob.ini := ⟨f1, by rw [← n1]; exact L1.out.keep UW (low f1 M1'.out), (apart f1 M1'.out).1, (apart f1 M1'.out).2⟩
              have apW : Apart wc d g' s0.a ob.wr.length s0.c ob.wr := ⟨f0, by rw [← n0]; exact L0.out.keep UW (low f0 M0.out), (apart f0 M0.out).1, (apart f0 M0.out).2⟩
              have tF : Tells wc 60 #[.pointer (some ⟨w.heap.size + 1, 0, none⟩), .pointer (some ⟨wq.heap.size + 1, 0, none⟩)] ob.wr ob.ini := by
                intro W t ht hb
                have htn := HWR.out t ht
                obtain ⟨v0, hv0⟩ := has_at Mk (k := t) (by rw [Q2'.out.len]; exact htn)
                have hv := Q2'.out.le t v0 hv0
                obtain ⟨gm, egm, _, glt, cm, _⟩ := R1.out.s1.has (by omega)
                injection egm with egm
                injection egm with egm
                subst egm
                have cm1 := cm t (by omega)
                rw [show (Mk.map nI)[t]? = some (nI v0) by simp [hv0]] at cm1
                have e1 := (hb.cell (World.block_lt_of_cell? _ _ R1.out.b1)).trans R1.out.b1
                have e2 := (hb.cell (World.block_lt_of_cell? _ _ k2'')).trans k2''
                have e3 := (hb.cell (World.block_lt_of_cell? _ _ cm1)).trans cm1
                have := mark60 W _ _ _ n n t v0 ((x : Int) + 1) e1 e2 e3 htn
                rw [show ((v0 : Int) == (x : Int) + 1) = decide (t ∈ ob.ini) by rw [Bool.eq_iff_iff]; simp only [beq_iff_eq, decide_eq_true_eq]; rw [← hv.2]; omega] at this
                exact this
              have tT : Tells wc 61 #[.pointer (some ⟨w.heap.size + 1 + 1 + 1, 0, none⟩), .pointer (some ⟨wq.heap.size + 1, 0, none⟩)] ob.ini ob.wr := by
                intro W t ht hb
                have htn := HI.out t ht
                obtain ⟨v0, hv0⟩ := has_at Mj (k := t) (by rw [R2'.out.len]; exact htn)
                have hv := R2'.out.le t v0 hv0
                obtain ⟨gm, egm, _, glt, cm, _⟩ := R1.out.s2.has (by omega)
                injection egm with egm
                injection egm with egm
                subst egm
                have cm1 := cm t (by omega)
                rw [show (Mj.map nI)[t]? = some (nI v0) by simp [hv0]] at cm1
                have e1 := (hb.cell (World.block_lt_of_cell? _ _ R1.out.b2)).trans R1.out.b2
                have e2 := (hb.cell (World.block_lt_of_cell? _ _ k2'')).trans k2''
                have e3 := (hb.cell (World.block_lt_of_cell? _ _ cm1)).trans cm1
                have := mark61 W _ _ _ n n t v0 ((x : Int) + 1) e1 e2 e3 htn
                rw [show ((v0 : Int) == (x : Int) + 1) = decide (t ∈ ob.wr) by rw [Bool.eq_iff_iff]; simp only [beq_iff_eq, decide_eq_true_eq]; rw [← hv.2]; omega] at this
                exact this
              have hcon : Hid (Calls Ybaz.prog 59 #[.pointer (some ⟨d, 2, none⟩), .slice s1.a ob.ini.length s1.c, .slice s0.a ob.wr.length s0.c, .func (.func 60) #[] #[.pointer (some ⟨w.heap.size + 1, 0, none⟩), .pointer (some ⟨wq.heap.size + 1, 0, none⟩)], .func (.func 61) #[] #[.pointer (some ⟨w.heap.size + 1 + 1 + 1, 0, none⟩), .pointer (some ⟨wq.heap.size + 1, 0, none⟩)]] wc.drew fun e w' => e = .returned (.tuple #[]) ∧ ∃ g'', Gr w' d 2 g'' (othersG G' ob.ini ob.wr) (othersJ J' ob.ini ob.wr) ∧ Grew d wc.drew w' g' g'') := by
                have bd : Below wc.heap.size wc wc.drew := ⟨rfl, rfl, rfl, Nat.le_refl _, fun _ _ => rfl⟩
                have hm1 : 6 * (ob.ini.length + 2) * (ob.wr.length + 2) ≤ 6 * 102 * 102 := Nat.mul_le_mul (Nat.mul_le_mul_left _ (by omega)) (by omega)
                have w1 := W1.out
                have hw := HW.out
                have hx7 : x * 70000 ≤ os.length * 70000 := Nat.mul_le_mul_right _ (by omega)
                exact others_any wc.drew d 2 g' G' J' (gL.below bd) s1.a s0.a s1.c s0.c ob.ini ob.wr (apI.below bd) (apW.below bd) (fun t ht => by have := HI.out t ht; omega) (fun t ht => by have := HWR.out t ht; omega) (by omega) 60 61 _ _ (enters_of Ybaz.func60 (by kernel_rfl) rfl) (enters_of Ybaz.func61 (by kernel_rfl) rfl) tF.drew tT.drew
              have GL : Hid _ := gL
              have UW' : Hid _ := UW
              clear gL UW tF tT apI apW apart low
              have hd9 : d < wc.heap.size := GL.out.lt
              go_region_with (go_at_call 59; refine hcon.out.mono ?_; rintro e w' ⟨rfl, g'', r1, r2⟩)
              all_goals go_wp2_with fail
              all_goals (
                have R1' : Hid _ := r1
                have z2 := r2.upd.size
                have zw : wc.drew.heap.size = wc.heap.size := rfl
                have footUp : ∀ k ∈ d :: g'.foot, k < w.heap.size ∨ w.heap.size + 4 ≤ k := by
                  intro k hk
                  simp only [List.mem_cons] at hk
                  rcases hk with rfl | hk
                  · exact .inl hd
                  · exact F1.out k hk
                have UA2 : Upd (d :: g.foot) w wc.drew := (K1.out.upd.trans UW'.out (fun k hk => .inr (by simp at hk; omega))).trans (Upd.drew [] _) (by simp)
                have UB : Upd (d :: g.foot) w w' := UA2.trans r2.upd (by
                  intro k hk
                  simp only [List.mem_cons] at hk
                  rcases hk with rfl | hk
                  · exact .inl (by simp)
                  · rcases K1.out.foot k hk with h1 | h1
                    · exact .inl (by simp [h1])
                    · exact .inr h1)
                have T2 : Two2 w.heap.size n w' Mk Mj := (R1.out.keep (Upd.drew [] _) (by simp)).keep r2.upd footUp
                have sz := othersG_size G' ob.ini ob.wr n hil hwl hn2
                have w1 := W1.out
                have e1 := E1.out
                have e2 := E2.out
                rw [drop_at HOB.out] at e1 e2
                refine ⟨⟨x + 1, g'', _, _, Mk, Mj, by omega, by go_num, R1'.out, ⟨UB, ?_, r2.kc.trans K1.out.kc⟩, T2, Q2'.out.next, R2'.out.next, ?_, by omega, by omega, by omega, e1, e2⟩, by simp [intOf] <;> omega⟩
                · intro k hk
                  rcases r2.foot k hk with h1 | h1
                  · exact K1.out.foot k h1
                  · exact .inr (by omega)
                · intro k hk
                  rcases r2.foot k hk with h1 | h1
                  · exact F1.out k h1
                  · exact .inr (by omega))
    · have hx2 : x = os.length := by omega
      subst hx2
      go_wp2_with fail
      go_end0
      have e1 := E1.out
      have e2 := E2.out
      rw [List.drop_length] at e1 e2
      have e3 : G' = initG G os := e1
      have e4 : J' = initJ J os := e2
      exact ⟨rfl, g', by rw [← e3, ← e4]; exact H1.out, K1.out⟩
end Go.Proofs.YbulkctquGreatFmt
