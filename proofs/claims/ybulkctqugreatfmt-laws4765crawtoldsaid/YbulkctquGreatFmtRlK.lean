/-
  The raw law: what the functions that it calls do.
-/
import Derived.Test.YbulkctquGreatFmtRlB
import Derived.Test.YbulkctquGreatFmtCfC
import Derived.Test.YbulkctquGreatFmtMisR
import Derived.Test.YbulkctquGreatFmtVersR
import Derived.Test.YbulkctquGreatFmtNspT
import Derived.Test.YbulkctquGreatFmtWitCR
import Derived.Test.YbulkctquGreatFmtNlB
namespace Go.Proofs.YbulkctquGreatFmt
open Go.ChangeShapes Go.WideShapes Go.ChangeAt Go.RowKit Go.Ord
set_option linter.unusedVariables false

theorem two_nil {w w' : World} (h : Below w.heap.size w w') : Two w w' ⟨none, 0, 0⟩ ⟨none, 0, 0⟩ (allN 0 []) (allA 0 []) :=
  ⟨⟨[], Sl.empty _ _ _, by simp, [], Sl.empty _ _ _, by simp, by simp⟩, h, rfl, rfl⟩
theorem ks_of (F0 : Stop.Interp) (w : World) (hT : F0.told.answers w.tape) (hs : List (List Tx)) (B : Bnd hs) (h8 : ∀ s k e x, At hs s k e x → x.v < 8) (h12 : (rksAll 0 hs).length ≤ 12) (hev : evAll hs ≤ 10000) : KS w hs := by
  have hvb : ∀ s k e x, At hs s k e x → x.v < 900 ∧ x.x < 900 := fun s k e x h => (B.ev s k e x h).2
  have hv9 : ∀ s k e x, At hs s k e x → x.k < 256 ∧ x.x < 1000 := fun s k e x h => by have := B.ev s k e x h; omega
  refine ⟨fun w1 R ta cap TA H hb => ?_, fun w1 R ta cap TA H hb => ?_, fun w1 R ta cap TA H hb => ?_, fun w1 R ta cap F A zs NM vars vers os ss fa ows G J P g c TA H hb O W N Q sl => ?_⟩
  · rcases TA with rfl | ⟨rfl, rfl, rfl⟩
    · exact model5 w1 R hs H B cap
    · refine (model5N w1).mono ?_
      rintro e w' ⟨rfl, hB⟩
      exact ⟨⟨none, 0, 0⟩, [], [], false, rfl, hB, .inr ⟨rfl, hok_nil, MI.start, rfl, Sl.empty _ _ _, by simp⟩⟩
  · have tp : ∀ w2, Below w1.heap.size w1 w2 → F0.told.answers w2.tape := fun w2 h2 => by
      have e1 := hb.tape
      have e2 := h2.tape
      rw [e2, e1]; exact hT
    refine cert6R w1 R hs ta cap TA.at_ H h8 (fun w2 h2 => ?_) (fun F bm w2 O W H2 M => ?_) (fun F bm w2 O W Q H2 M => ?_) (fun F bm w2 p q l t lp tp O W H2 M q1 q2 q3 q4 hc => ?_)
    · rcases TA with rfl | ⟨rfl, rfl, rfl⟩
      · exact versions11R F0 w2 (tp w2 h2) R hs (H.below h2) B cap
      · exact vers11N w2
    · rcases TA with rfl | ⟨rfl, rfl, rfl⟩
      · exact misread13R w2 R hs H2 O cap bm F M W
      · exact mis13N w2 bm F
    · rcases TA with rfl | ⟨rfl, rfl, rfl⟩
      · exact nsp14T w2 R hs H2 O cap bm F M W Q h12 hev hvb
      · exact nsp14N w2 bm F
    · rcases TA with rfl | ⟨rfl, rfl, rfl⟩
      · exact forced20 w2 R hs H2 O hv9 cap bm F M W p q l t q1 q2 lp tp q3 q4 hc
      · simp at q1
  · rcases TA with rfl | ⟨rfl, rfl, rfl⟩
    · exact names_any w1 R hs H.base cap B.small B.small2
    · refine (names7N w1).mono ?_
      rintro e w' ⟨rfl, hB⟩
      exact ⟨⟨none, 0, 0⟩, ⟨none, 0, 0⟩, rfl, two_nil hB⟩
  · have hPA : P.length = A.length := len_of_mem Q.nd Q.mem
    have hAR : (rksAll 0 hs).length = A.length := by rw [← N.hA]
    rcases TA with rfl | ⟨rfl, rfl, rfl⟩
    · exact wit10R w1 R hs cap H O F A zs NM vars vers os ss fa ows G J N W P Q (by omega) g c sl
    · have hP : P.length = 0 := by rw [hPA, ← hAR]; rfl
      rw [hP]
      exact wit10N w1 g c
end Go.Proofs.YbulkctquGreatFmt
