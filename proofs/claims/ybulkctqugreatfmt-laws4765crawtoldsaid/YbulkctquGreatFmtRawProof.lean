/-
  'Rows.LawS4765CRawToldSaid': the told and tied card of ordinant.LawS4765CRaw. fmt's text is told by the authors' own function.
-/
import Derived.Test.YbulkctquGreatFmtRl
import Derived.Test.YbulkctquGreatFmtRlK
import Derived.Test.YbulkctquGreatFmtRlJ
import Derived.Test.YbulkctquGreatFmtCards
import Derived.Test.YbulkctquGreatFmtTie
import Derived.ProofKit
import Derived.OpenShut
import Derived.ChangeOld
import Derived.Below
import Derived.Stop.JoinedAt
import Derived.Stop.Texts
import Derived.Stop.JoinedTold
import Derived.SevenToldRow
import Derived.SevenTiedAt
import Derived.Deep.DeepLaidRun
namespace Go.Proofs.YbulkctquGreatFmt.lawS4765CRaw
open Go.ChangeShapes Go.WideShapes Go.ChangeAt Go.RowKit Go.Kit
open Go.Extern.Stop Go.Stop Go.Extern

theorem own : ownKnob Ybaz.prog.godebug = none := by kernel_rfl
theorem laidOut : laidOutB Ybaz.prog = true := by kernel_rfl

def cellsU8 (l : List (DataW Unit)) : Array Value := (l.map fun d => match d with | .lit (.int k n) => Value.int k n | _ => Value.int .u8 0).toArray
def cellsOf (d : DataW Unit) : Array Value := match d with | .agg l => cellsU8 l | _ => #[]
/-- The witness: the settled world, the three tables laid. -/
noncomputable def laidWorld (os : Os) : World :=
  let w0 := World.holding Ybaz.prog os ⟨#[], #[], []⟩
  let lay (c : Array Value) : Obj → Obj := fun
      | .cells _ t frozen => .cells c t frozen
      | o => o
  { w0 with heap := ((w0.heap.modify 0 (lay (cellsOf Rows.laid_internal_strconv_uint64pow10))).modify 1 (lay (cellsOf Rows.laid_math_bits_deBruijn32tab))).modify 2 (lay (cellsOf Rows.laid_math_bits_deBruijn64tab)) }
set_option maxRecDepth 100000 in
theorem laid_met (os : Os) (args : Array Value) : laidMet Ybaz.prog Rows.lawS4765CRawRow.laid ((laidWorld os).forCall (fun _ _ => 0) ⟨#[], args, []⟩).memory :=
  laidMet_of_run3 8 (by kernel_rfl) (by kernel_rfl) (by kernel_rfl)

set_option maxRecDepth 100000 in
theorem lifted (os : Os) (started : os.Started) (H : Type) (enc : TypeId × Value → H) :
    ReturnsInTold none {} Ybaz.checked os 3 .any Input.okWide ((OpenSpec.ofChange Rows.lawS4765CRawSpec).preRow enc Ybaz.prog Ybaz.f3 Rows.lawS4765CRawRow.domain false Rows.lawS4765CRawRow.laid) (fun F => ((OpenSpec.ofChange Rows.lawS4765CRawSpec).at F).post enc Ybaz.prog Ybaz.f3 false true false false) (aloneAtReturn Ybaz.prog) nothingAlways := by
  refine returnsInTold_of_row (C := Ybaz.checked) (s := OpenSpec.ofChange Rows.lawS4765CRawSpec) (by kernel_rfl) own started (by kernel_rfl) Ybaz.func3
    (OpenSpec.witness_stopped_at (enc := enc) (C := Ybaz.checked) false (laidWorld os) #[.slice none 0 0] rfl (by kernel_rfl) (by kernel_rfl) (by kernel_rfl)
      (OpenSpec.preRow_of_B rfl 8 (by kernel_rfl) (by kernel_rfl) (laid_met os _))) ?_
  intro F W base args ds gs before _ hF hval0 hW _ _ hwt _ _
  have hW' := hW
  obtain ⟨p, q, hA0, hV, rfl, hfz, hnd⟩ := hW
  have hA : DataW.TrodAll enc Ybaz.prog W 0 (fun _ => true) true Ybaz.f3.params.toList args.toList ds p := hA0
  have hval : ∀ (j : Nat) t v, Ybaz.f3.params[j]? = some t → args[j]? = some v → Value.okWide Ybaz.prog W .any base t v := hval0
  rw [Ybaz.params3] at hA hval
  obtain ⟨v0, d0, rfl, rfl, h0⟩ := trodAll_one hA
  obtain ⟨rfl, rfl⟩ := trodVars_none hV
  obtain ⟨a0, len0, cap0, rfl⟩ := okWide_slice Ybaz.underlying22 (hval 0 22 v0 rfl rfl)
  have k0 := h0
  have lt0 : ∀ x ∈ p, x.block < W.heap.size := by obtain ⟨m, hm⟩ := k0; exact DataW.trod_lt m _ _ _ hm
  obtain ⟨ss, hl, AE, NO, SZ⟩ : ∃ ss : List (List RwT), len0 = ss.length ∧ ArgRS W a0 ss ∧ NilOr a0 ss.length cap0 ∧ ∀ l ∈ ss, l.length < 140737488355328 := by
    obtain ⟨fuel, hf⟩ := h0
    obtain ⟨a, cap, ss, hcs, AE, hml, NO⟩ := open_rss hf
    simp [Value.cells] at hcs
    obtain ⟨rfl, rfl, rfl⟩ := hcs
    refine ⟨ss, rfl, AE, NO, open_rssW hf AE (fun n hn => ?_)⟩
    have hw : (DataW.weightsEach Ybaz.prog (Ybaz.f3.params.toList ++ (OpenSpec.ofChange Rows.lawS4765CRawSpec).bare.plain.varTypes Ybaz.prog) ([d0] ++ [])).all (· ≤ reachBytes) = true := hwt
    rw [Ybaz.params3] at hw
    have h3 := List.all_eq_true.mp hw n (by
      show n ∈ DataW.weightsEach Ybaz.prog (22 :: _) (d0 :: [])
      unfold DataW.weightsEach
      exact List.mem_append.mpr (.inl hn))
    simpa using h3
  subst hl
  clear hA0 hval0
  refine (law3 W a0 ss cap0 AE NO SZ (fun fw => ks_of F W hF (hsR ss) fw.bnd Few.ver fw.rks fw.evs)).mono fun e W' ⟨he, bel⟩ => ?_
  subst he
  exact ⟨_, rfl, _, _, _, [], _, [], hW', trodAll_mk1 (shut_bool Ybaz.underlying4 _), (trodAll_cons_mk (Below.trod laidOut (by kernel_rfl) (of_decide_eq_true (by kernel_rfl)) k0 bel lt0) trodAll_mk0), rfl, bel.frame _, fun h => by cases h⟩

theorem laidOutP : laidOutB Ybaz.pinned.checked.prog = true := by kernel_rfl
theorem stops : Ybaz.pinned.checked.prog.stops = Rows.lawS4765CRawRow.stops := by kernel_rfl
theorem stopKnobs : Ybaz.pinned.checked.prog.stopKnobs = [] := by kernel_rfl
theorem quiet (os : Os) : Stop.quiet Ybaz.pinned.checked.prog os := by
  intro k hk
  rw [stopKnobs] at hk
  cases hk

set_option maxRecDepth 100000 in
theorem proved : Rows.LawS4765CRawToldSaid :=
  Claim7.holds_of_told_tied_any_at .later 3 Ybaz.f3 _ _ [] _ _ _ _ _ (by kernel_rfl) rfl rfl rfl laidOutP (by kernel_rfl) rfl ⟨rfl, rfl, rfl, rfl, rfl, rfl, rfl⟩ rfl rfl (by kernel_rfl) (by kernel_rfl) Ybaz.func3 (by kernel_rfl)
    (of_decide_eq_true (by kernel_rfl)) (of_decide_eq_true (by kernel_rfl)) stops.symm rfl stopKnobs.symm (by kernel_rfl)
    (by kernel_rfl) (by kernel_rfl) (by kernel_rfl) (by kernel_rfl) (by kernel_rfl) (by kernel_rfl) (by kernel_rfl) (by kernel_rfl) (by kernel_rfl) rfl (by kernel_rfl) rfl rfl
    rfl rfl
    rfl (by kernel_rfl) (by kernel_rfl) (by kernel_rfl) (by decide) (by kernel_rfl) lawS4765CRaw_row_tie
    (OpenClaim.moreEntering_of (by kernel_rfl) (by kernel_rfl) (by kernel_rfl) (by kernel_rfl) (by kernel_rfl) (by kernel_rfl) (by kernel_rfl) (by kernel_rfl) (by kernel_rfl) (by kernel_rfl))
    ⟨_, WideRow.started_initial, quiet _⟩
    (fun os started _ H enc _ => lifted os started H enc)
#print axioms proved
end Go.Proofs.YbulkctquGreatFmt.lawS4765CRaw
