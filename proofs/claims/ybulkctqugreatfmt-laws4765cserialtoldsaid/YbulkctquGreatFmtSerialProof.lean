/-
  'Rows.LawS4765CSerialToldSaid': the told and tied card of ordinant.LawS4765CSerial. fmt's text is told by the authors' own function.
-/
import Derived.Test.YbulkctquGreatFmtLaw
import Derived.Test.YbulkctquGreatFmtLawI
import Derived.Test.YbulkctquGreatFmtCards
import Derived.Test.YbulkctquGreatFmtTie
import Derived.ProofKit
import Derived.OpenShut
import Derived.ChangeOld
import Derived.Below
import Derived.Stop.JoinedAt
import Derived.Stop.Texts
import Derived.Stop.JoinedTold
import Derived.SevenToldRow
import Derived.SevenTiedAt
import Derived.Deep.DeepLaidRun
namespace Go.Proofs.YbulkctquGreatFmt.lawS4765CSerial
open Go.ChangeShapes Go.WideShapes Go.ChangeAt Go.RowKit Go.Kit
open Go.Extern.Stop Go.Stop Go.Extern

theorem own : ownKnob Ybaz.prog.godebug = none := by kernel_rfl
theorem laidOut : laidOutB Ybaz.prog = true := by kernel_rfl

def cellsU8 (l : List (DataW Unit)) : Array Value := (l.map fun d => match d with | .lit (.int k n) => Value.int k n | _ => Value.int .u8 0).toArray
def cellsOf (d : DataW Unit) : Array Value := match d with | .agg l => cellsU8 l | _ => #[]
/-- The witness: the settled world, the three tables laid. -/
noncomputable def laidWorld (os : Os) : World :=
  let w0 := World.holding Ybaz.prog os ⟨#[], #[], []⟩
  let lay (c : Array Value) : Obj → Obj := fun
      | .cells _ t frozen => .cells c t frozen
      | o => o
  { w0 with heap := ((w0.heap.modify 0 (lay (cellsOf Rows.laid_internal_strconv_uint64pow10))).modify 1 (lay (cellsOf Rows.laid_math_bits_deBruijn32tab))).modify 2 (lay (cellsOf Rows.laid_math_bits_deBruijn64tab)) }
set_option maxRecDepth 100000 in
theorem laid_met (os : Os) (args : Array Value) : laidMet Ybaz.prog Rows.lawS4765CSerialRow.laid ((laidWorld os).forCall (fun _ _ => 0) ⟨#[], args, []⟩).memory :=
  laidMet_of_run3 8 (by kernel_rfl) (by kernel_rfl) (by kernel_rfl)

set_option maxRecDepth 100000 in
theorem lifted (os : Os) (started : os.Started) (H : Type) (enc : TypeId × Value → H) :
    ReturnsInTold none {} Ybaz.checked os 4 .any Input.okWide ((OpenSpec.ofChange Rows.lawS4765CSerialSpec).preRow enc Ybaz.prog Ybaz.f4 Rows.lawS4765CSerialRow.domain false Rows.lawS4765CSerialRow.laid) (fun F => ((OpenSpec.ofChange Rows.lawS4765CSerialSpec).at F).post enc Ybaz.prog Ybaz.f4 false true false false) (aloneAtReturn Ybaz.prog) nothingAlways := by
  refine returnsInTold_of_row (C := Ybaz.checked) (s := OpenSpec.ofChange Rows.lawS4765CSerialSpec) (by kernel_rfl) own started (by kernel_rfl) Ybaz.func4
    (OpenSpec.witness_stopped_at (enc := enc) (C := Ybaz.checked) false (laidWorld os) #[.slice none 0 0] rfl (by kernel_rfl) (by kernel_rfl) (by kernel_rfl)
      (OpenSpec.preRow_of_B rfl 8 (by kernel_rfl) (by kernel_rfl) (laid_met os _))) ?_
  intro F W base args ds gs before _ hF hval0 hW _ _ _ _ _
  have hW' := hW
  obtain ⟨p, q, hA0, hV, rfl, hfz, hnd⟩ := hW
  have hA : DataW.TrodAll enc Ybaz.prog W 0 (fun _ => true) true Ybaz.f4.params.toList args.toList ds p := hA0
  have hval : ∀ (j : Nat) t v, Ybaz.f4.params[j]? = some t → args[j]? = some v → Value.okWide Ybaz.prog W .any base t v := hval0
  rw [Ybaz.params4] at hA hval
  obtain ⟨v0, d0, rfl, rfl, h0⟩ := trodAll_one hA
  obtain ⟨rfl, rfl⟩ := trodVars_none hV
  obtain ⟨a0, len0, cap0, rfl⟩ := okWide_slice Ybaz.underlying65 (hval 0 65 v0 rfl rfl)
  have k0 := h0
  have lt0 : ∀ x ∈ p, x.block < W.heap.size := by obtain ⟨m, hm⟩ := k0; exact DataW.trod_lt m _ _ _ hm
  obtain ⟨ts, hl, AE⟩ : ∃ ts : List CT, len0 = ts.length ∧ ArgE W a0 ts := by
    obtain ⟨fuel, hf⟩ := h0
    obtain ⟨a, cap, ts, hcs, AE⟩ := open_txs hf
    simp [Value.cells] at hcs
    obtain ⟨rfl, rfl, rfl⟩ := hcs
    exact ⟨ts, rfl, AE⟩
  subst hl
  clear hA0 hval0
  refine (law4 W a0 ts cap0 AE).mono fun e W' ⟨he, bel⟩ => ?_
  subst he
  exact ⟨_, rfl, _, _, _, [], _, [], hW', trodAll_mk1 (shut_bool Ybaz.underlying4 _), (trodAll_cons_mk (Below.trod laidOut (by kernel_rfl) (of_decide_eq_true (by kernel_rfl)) k0 bel lt0) trodAll_mk0), rfl, bel.frame _, fun h => by cases h⟩

theorem laidOutP : laidOutB Ybaz.pinned.checked.prog = true := by kernel_rfl
theorem stops : Ybaz.pinned.checked.prog.stops = Rows.lawS4765CSerialRow.stops := by kernel_rfl
theorem stopKnobs : Ybaz.pinned.checked.prog.stopKnobs = [] := by kernel_rfl
theorem quiet (os : Os) : Stop.quiet Ybaz.pinned.checked.prog os := by
  intro k hk
  rw [stopKnobs] at hk
  cases hk

set_option maxRecDepth 100000 in
theorem proved : Rows.LawS4765CSerialToldSaid :=
  Claim7.holds_of_told_tied_any_at .later 4 Ybaz.f4 _ _ [] _ _ _ _ _ (by kernel_rfl) rfl rfl rfl laidOutP (by kernel_rfl) rfl ⟨rfl, rfl, rfl, rfl, rfl, rfl, rfl⟩ rfl rfl (by kernel_rfl) (by kernel_rfl) Ybaz.func4 (by kernel_rfl)
    (of_decide_eq_true (by kernel_rfl)) (of_decide_eq_true (by kernel_rfl)) stops.symm rfl stopKnobs.symm (by kernel_rfl)
    (by kernel_rfl) (by kernel_rfl) (by kernel_rfl) (by kernel_rfl) (by kernel_rfl) (by kernel_rfl) (by kernel_rfl) (by kernel_rfl) (by kernel_rfl) rfl (by kernel_rfl) rfl rfl
    rfl rfl
    rfl (by kernel_rfl) (by kernel_rfl) (by kernel_rfl) (by decide) (by kernel_rfl) lawS4765CSerial_row_tie
    (OpenClaim.moreEntering_of (by kernel_rfl) (by kernel_rfl) (by kernel_rfl) (by kernel_rfl) (by kernel_rfl) (by kernel_rfl) (by kernel_rfl) (by kernel_rfl) (by kernel_rfl) (by kernel_rfl))
    ⟨_, WideRow.started_initial, quiet _⟩
    (fun os started _ H enc _ => lifted os started H enc)
#print axioms proved
end Go.Proofs.YbulkctquGreatFmt.lawS4765CSerial
