/-
  fmt's stops and errors.New: contracts.
-/
import Derived.Test.YbulkctquGreatFmtHeap
import Derived.Test.YbulkctquGreatFmtRows
import Derived.Stop.CallBack
import Derived.Stop.IfaceNil
import Derived.Stop.Told
import Derived.Stop.Texts
namespace Go.Proofs.YbulkctquGreatFmt
open Go.ChangeShapes Go.WideShapes Go.ChangeAt Go.RowKit Go.Ord Go.Extern.Stop Go.Stop Go.Extern
set_option linter.unusedVariables false

theorem call44 (args : Array Value) (w : World) : (callFunc 44 args).run Ybaz.prog w = (FmtCalls.sprintf #[9, 169] #[9] args).run Ybaz.prog w :=
  run_callFunc_next Ybaz.func44 (by kernel_rfl) (by kernel_rfl) (by kernel_rfl) args w
theorem call49 (args : Array Value) (w : World) : (callFunc 49 args).run Ybaz.prog w = (FmtCalls.errorf #[9, 169] #[49] args).run Ybaz.prog w :=
  run_callFunc_next Ybaz.func49 (by kernel_rfl) (by kernel_rfl) (by kernel_rfl) args w
theorem fguard (name : String) (w : World) : (FmtStop.guard name).run Ybaz.prog w = .ok () w := by kernel_rfl
theorem nextTurns : Extern.next FmtCalls.turnsRow = some (FmtCalls.begun #[] #[]) := by kernel_rfl
theorem nextReturned : Extern.next FmtCalls.returnedRow = some (FmtCalls.returned #[] #[]) := by kernel_rfl
def fSes : ByteArray := ⟨#[115, 101, 115, 115, 105, 111, 110, 32, 37, 100]⟩
def fTxn : ByteArray := ⟨#[44, 32, 116, 114, 97, 110, 115, 97, 99, 116, 105, 111, 110, 32, 37, 100]⟩
def fEvt : ByteArray := ⟨#[44, 32, 101, 118, 101, 110, 116, 32, 37, 100]⟩
theorem fmtSes : FmtStop.printed? ⟨#[115, 101, 115, 115, 105, 111, 110, 32, 37, 100]⟩ 1 = some [(0, 100, false)] := by kernel_rfl
theorem fmtTxn : FmtStop.printed? ⟨#[44, 32, 116, 114, 97, 110, 115, 97, 99, 116, 105, 111, 110, 32, 37, 100]⟩ 1 = some [(0, 100, false)] := by kernel_rfl
theorem fmtEvt : FmtStop.printed? ⟨#[44, 32, 101, 118, 101, 110, 116, 32, 37, 100]⟩ 1 = some [(0, 100, false)] := by kernel_rfl
def shape3 : List UInt8 := [5, 3, 0, 0, 0, 0, 0, 0, 0, 105, 110, 116]
theorem act3 (name : String) (b : Bool) (x : Value) (w : World) : (FmtCalls.act name b 100 false (.iface 3 x)).run Ybaz.prog w = .ok (.closed b) w := by cases b <;> kernel_rfl
theorem op3 (name : String) (b : Bool) (x : Int) (w : World) : (FmtStop.operand name b 100 false (.iface 3 (.int .i64 x))).run Ybaz.prog w = .ok (shape3, Go.Extern.Stop.digits 8 (x % 2 ^ 64).toNat) w := by cases b <;> kernel_rfl
set_option maxRecDepth 100000 in
theorem new23 (s : ByteArray) (w : World) : Calls Ybaz.prog 23 #[.string s] w fun e w' => e = .returned (.iface 166 (.pointer (some ⟨w.heap.size, 0, none⟩))) ∧ w' = w.alloc (.cells #[.string s] 168) := by
  go_enter Ybaz.func23, Ybaz.ntmps23
  go_wp2_with fail
  go_ret
  exact ⟨rfl, rfl⟩
def txOk (fm : List UInt8) (n : Nat) : Bool := match FmtText.text "fmt.Sprintf" [fm, shape3, digits 8 n] with | some s => decide (s.length ≤ 1000) | none => false
theorem txSes : (List.range 100).all (txOk [115, 101, 115, 115, 105, 111, 110, 32, 37, 100]) = true := by kernel_rfl
theorem txTxn : (List.range 100).all (txOk [44, 32, 116, 114, 97, 110, 115, 97, 99, 116, 105, 111, 110, 32, 37, 100]) = true := by kernel_rfl
theorem txEvt : (List.range 100).all (txOk [44, 32, 101, 118, 101, 110, 116, 32, 37, 100]) = true := by kernel_rfl
theorem text_short {fm : List UInt8} (h : (List.range 100).all (txOk fm) = true) (F : Interp) (tape : Nat → Question → Nat) (hF : F.told.answers tape) (n : Nat) (hn : n + 1 < 100) (i : Nat) :
    (FmtStop.textOf (tape i (Question.extern (word "fmt.Sprintf" [fm, shape3, digits 8 (((n : Int) + 1) % 18446744073709551616).toNat] 0) 0))).size ≤ 1000 := by
  rw [hF, show (((n : Int) + 1) % 18446744073709551616).toNat = n + 1 by omega]
  have h1 := List.all_eq_true.mp h (n + 1) (List.mem_range.mpr hn)
  unfold txOk at h1
  split at h1
  · rename_i s hs
    have hl : s.length ≤ 1000 := by simpa using h1
    have := Kit.textOf_list F.told "fmt.Sprintf" [fm, shape3, digits 8 (n + 1)]
    rw [told_string F hs (by omega)] at this
    have e : (FmtStop.textOf (F.told "fmt.Sprintf" [fm, shape3, digits 8 (n + 1)] 0)).size = s.length := by rw [← this]; rfl
    omega
  · cases h1
set_option maxRecDepth 100000 in
theorem str50 (F : Interp) (a b c : Nat) (ha : a < 90) (hb : b < 90) (hc : c < 90) (w : World) (hF : F.told.answers w.tape) : Calls Ybaz.prog 50 #[.agg #[.int .i64 a, .int .i64 b, .int .i64 c]] w fun e w' => ∃ s, e = .returned (.string s) ∧ Upd [] w w' := by
  have e1 := call44
  have e2 := fguard
  have e3 := fmtSes
  have e4 := fmtTxn
  have e5 := fmtEvt
  have e6 := act3
  have e7 := op3
  have t1 := text_short txSes F w.tape hF a (by omega)
  have t2 := text_short txTxn F w.tape hF b (by omega)
  have t3 := text_short txEvt F w.tape hF c (by omega)
  go_enter Ybaz.func50, Ybaz.ntmps50
  go_wp2
  apply rows_value nextTurns
  case hr =>
    go_simp
    exact ⟨rfl, rfl⟩
  case h =>
    have u1 := t1 w.drawn
    generalize FmtStop.textOf (w.tape w.drawn (Question.extern (word "fmt.Sprintf" [[115, 101, 115, 115, 105, 111, 110, 32, 37, 100], shape3, digits 8 (((a : Int) + 1) % 18446744073709551616).toNat] 0) 0)) = s1 at u1 ⊢
    go_wp2
    apply rows_value nextTurns
    case hr =>
      go_simp
      exact ⟨rfl, rfl⟩
    case h =>
      have u2 := t2 (w.drawn + 1)
      generalize FmtStop.textOf (w.tape (w.drawn + 1) (Question.extern (word "fmt.Sprintf" [[44, 32, 116, 114, 97, 110, 115, 97, 99, 116, 105, 111, 110, 32, 37, 100], shape3, digits 8 (((b : Int) + 1) % 18446744073709551616).toNat] 0) 0)) = s2 at u2 ⊢
      have k2 : ¬ (9223372036854775807 : Int) < (s1.size : Int) + (s2.size : Int) := by omega
      go_wp2
      apply rows_value nextTurns
      case hr =>
        go_simp
        exact ⟨rfl, rfl⟩
      case h =>
        have u3 := t3 (w.drawn + 1 + 1)
        generalize FmtStop.textOf (w.tape (w.drawn + 1 + 1) (Question.extern (word "fmt.Sprintf" [[44, 32, 101, 118, 101, 110, 116, 32, 37, 100], shape3, digits 8 (((c : Int) + 1) % 18446744073709551616).toNat] 0) 0)) = s3 at u3 ⊢
        have k3 : (s1 ++ s2).size = s1.size + s2.size := by simp
        have k4 : ¬ (9223372036854775807 : Int) < (s1.size : Int) + (s2.size : Int) + (s3.size : Int) := by omega
        go_wp2
        go_ret
        exact ⟨⟨_, rfl⟩, (((((((Upd.alloc [] _ _).trans (Upd.alloc [] _ _) (by simp)).trans (Upd.alloc [] _ _) (by simp)).trans (Upd.alloc [] _ _) (by simp)).trans (Upd.drew [] _) (by simp)).trans (Upd.drew [] _) (by simp)).trans (Upd.drew [] _) (by simp))⟩
def shape35 : List UInt8 := [9, 6, 0, 0, 0, 0, 0, 0, 0, 117, 105, 110, 116, 54, 52]
theorem fmtE1 (w : World) : (FmtDoors.printed ⟨#[119, 114, 105, 116, 101, 115, 32, 118, 97, 114, 105, 97, 98, 108, 101, 32, 37, 100, 32, 97, 116, 32, 110, 111, 32, 118, 101, 114, 115, 105, 111, 110]⟩ 1).run Ybaz.prog w = .ok [(0, 100, false)] w := by kernel_rfl
theorem fmtE2 (w : World) : (FmtDoors.printed ⟨#[119, 114, 105, 116, 101, 115, 32, 118, 101, 114, 115, 105, 111, 110, 32, 37, 100, 44, 32, 119, 104, 105, 99, 104, 32, 37, 118, 32, 119, 114, 105, 116, 101, 115, 32, 116, 111, 111]⟩ 2).run Ybaz.prog w = .ok [(0, 100, false), (1, 118, false)] w := by kernel_rfl
theorem fmtE3 (w : World) : (FmtDoors.printed ⟨#[114, 101, 97, 100, 115, 32, 118, 97, 114, 105, 97, 98, 108, 101, 32, 37, 100, 32, 97, 116, 32, 118, 101, 114, 115, 105, 111, 110, 32, 37, 100, 44, 32, 119, 104, 105, 99, 104, 32, 110, 111, 32, 119, 114, 105, 116, 101, 32, 111, 102, 32, 118, 97, 114, 105, 97, 98, 108, 101, 32, 37, 100, 32, 119, 114, 105, 116, 101, 115]⟩ 3).run Ybaz.prog w = .ok [(0, 100, false), (1, 100, false), (2, 100, false)] w := by kernel_rfl
theorem act35 (name : String) (b : Bool) (x : Value) (w : World) : (FmtCalls.act name b 100 false (.iface 35 x)).run Ybaz.prog w = .ok (.closed b) w := by cases b <;> kernel_rfl
theorem op35 (name : String) (b : Bool) (x : Int) (w : World) : (FmtStop.operand name b 100 false (.iface 35 (.int .u64 x))).run Ybaz.prog w = .ok (shape35, Go.Extern.Stop.digits 8 (x % 2 ^ 64).toNat) w := by cases b <;> kernel_rfl
theorem act56 (name : String) (b : Bool) (x : Value) (w : World) : (FmtCalls.act name b 118 false (.iface 56 x)).run Ybaz.prog w = .ok (.call false) w := by cases b <;> kernel_rfl
theorem str56 (w : World) : (typeStr 56).run Ybaz.prog w = .ok "ordinant.EventAt" w := by kernel_rfl
theorem ptr166 (w : World) : (FmtStop.ptrTo "errors.errorString").run Ybaz.prog w = .ok 166 w := by kernel_rfl
theorem elem166 (w : World) : (elemOf 166).run Ybaz.prog w = .ok 168 w := by kernel_rfl
set_option maxRecDepth 100000 in
theorem errf1 (g : Nat) (x : Int) (w : World) (h0 : w.cell? ⟨g, 0, none⟩ = some (.iface 35 (.int .u64 x))) :
    Calls Ybaz.prog 24 #[.string ⟨#[119, 114, 105, 116, 101, 115, 32, 118, 97, 114, 105, 97, 98, 108, 101, 32, 37, 100, 32, 97, 116, 32, 110, 111, 32, 118, 101, 114, 115, 105, 111, 110]⟩, .slice (some ⟨g, 0, none⟩) 1 1] w fun e w' => ∃ p, e = .returned (.iface 166 (.pointer (some p))) ∧ Upd [] w w' := by
  have e1 := call49
  have e2 := fguard
  have e4 := fmtE1
  have e7 := act35
  have e8 := op35
  have e9 := ptr166
  have e10 := elem166
  go_enter Ybaz.func24, Ybaz.ntmps24
  go_wp2
  apply rows_value nextTurns
  case hr =>
    go_simp
    exact ⟨rfl, rfl⟩
  case h =>
    go_wp2
    go_ret
    exact ⟨_, rfl, (Upd.alloc [] _ _).trans (Upd.drew [] _) (by simp)⟩
set_option maxRecDepth 100000 in
theorem errf3 (g : Nat) (x y z : Int) (w : World) (h0 : w.cell? ⟨g, 0, none⟩ = some (.iface 35 (.int .u64 x))) (h1 : w.cell? ⟨g, 1, none⟩ = some (.iface 35 (.int .u64 y))) (h2 : w.cell? ⟨g, 2, none⟩ = some (.iface 35 (.int .u64 z))) :
    Calls Ybaz.prog 24 #[.string ⟨#[114, 101, 97, 100, 115, 32, 118, 97, 114, 105, 97, 98, 108, 101, 32, 37, 100, 32, 97, 116, 32, 118, 101, 114, 115, 105, 111, 110, 32, 37, 100, 44, 32, 119, 104, 105, 99, 104, 32, 110, 111, 32, 119, 114, 105, 116, 101, 32, 111, 102, 32, 118, 97, 114, 105, 97, 98, 108, 101, 32, 37, 100, 32, 119, 114, 105, 116, 101, 115]⟩, .slice (some ⟨g, 0, none⟩) 3 3] w fun e w' => ∃ p, e = .returned (.iface 166 (.pointer (some p))) ∧ Upd [] w w' := by
  have e1 := call49
  have e2 := fguard
  have e4 := fmtE3
  have e7 := act35
  have e8 := op35
  have e9 := ptr166
  have e10 := elem166
  go_enter Ybaz.func24, Ybaz.ntmps24
  go_wp2
  apply rows_value nextTurns
  case hr =>
    go_simp
    exact ⟨rfl, rfl⟩
  case h =>
    go_wp2
    go_ret
    exact ⟨_, rfl, (Upd.alloc [] _ _).trans (Upd.drew [] _) (by simp)⟩
theorem inv50 (v : Value) (w : World) : (invoke (.fn (.method "String") #[]) #[.iface 56 v]).run Ybaz.prog w = .ok (.enter 50 #[v]) w := by kernel_rfl
set_option maxRecDepth 100000 in
theorem errf2 (F : Interp) (g : Nat) (x : Int) (a b c : Nat) (ha : a < 90) (hb : b < 90) (hc : c < 90) (w : World) (hF : F.told.answers w.tape) (h0 : w.cell? ⟨g, 0, none⟩ = some (.iface 35 (.int .u64 x))) (h1 : w.cell? ⟨g, 1, none⟩ = some (.iface 56 (.agg #[.int .i64 a, .int .i64 b, .int .i64 c]))) :
    Calls Ybaz.prog 24 #[.string ⟨#[119, 114, 105, 116, 101, 115, 32, 118, 101, 114, 115, 105, 111, 110, 32, 37, 100, 44, 32, 119, 104, 105, 99, 104, 32, 37, 118, 32, 119, 114, 105, 116, 101, 115, 32, 116, 111, 111]⟩, .slice (some ⟨g, 0, none⟩) 2 2] w fun e w' => ∃ p, e = .returned (.iface 166 (.pointer (some p))) ∧ Upd [] w w' := by
  have e1 := call49
  have e2 := fguard
  have e4 := fmtE2
  have e5 := act56
  have e6 := str56
  have e7 := act35
  have e8 := op35
  have e9 := ptr166
  have e10 := elem166
  go_enter Ybaz.func24, Ybaz.ntmps24
  go_wp2
  have K5 := str50 F a b c ha hb hc w hF
  refine rows_call (d := { target := .fn (.method "String") #[], args := #[.iface 56 (.agg #[.int .i64 a, .int .i64 b, .int .i64 c])] }) (resume := FmtCalls.returnedRow) nextTurns (by go_simp; rfl) (inv50 _ _) (K5.mono ?_)
  rintro e w1 ⟨s, rfl, U1⟩
  have U2 : Hid (Upd [] w w1) := U1
  clear U1 K5
  apply rows_value nextReturned
  case hr =>
    go_simp
    exact ⟨rfl, rfl⟩
  case h =>
    go_wp2
    go_ret
    exact ⟨_, rfl, (U2.out.trans (Upd.alloc [] _ _) (by simp)).trans (Upd.drew [] _) (by simp)⟩
end Go.Proofs.YbulkctquGreatFmt
