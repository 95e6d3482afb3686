/-
  One cut more, in wide frames.
-/
import Derived.Test.YbulkctquGreatFmtFlg
namespace Go.Ord
set_option linter.unusedVariables false
/-- A cut where nothing follows in the sequence. -/
theorem wp_cutQ {P : Program} {s : Code} {Q : Exit → Act → World → Prop} {els : List Value} {dfr : List Deferred} {w : World} (fs : List (Option (Option Bool))) (rel : Value → Value → World → Prop)
    (first : ∀ (J K' : Act → World → Prop), (∀ a' w', MeetC fs els dfr rel a' w' → J a' w') → (∀ a' w', Met J a' w' → K' a' w') → s.wp P (Exit.then K' Q) ⟨els.toArray, dfr⟩ w)
    (rest : ∀ (u : Nat → Value) (x y : Value) (wc : World), rel x y wc → Q .normal ⟨(fillC fs els u x y 0).toArray, dfr⟩ wc) : s.wp P Q ⟨els.toArray, dfr⟩ w := by
  refine wp_mono (first (MeetC fs els dfr rel) (MeetC fs els dfr rel) (fun _ _ q => q) (fun _ _ q => q)) ?_
  intro e a' w' hq
  cases e with
  | normal =>
    obtain ⟨u, x, y, hr, ha⟩ := hq
    rw [ha]; exact rest u x y w' hr
  | exit id => exact hq
  | goto l => exact hq
  | ret => exact hq
  | panic ch => exact hq
  | outgrown => exact hq
end Go.Ord
