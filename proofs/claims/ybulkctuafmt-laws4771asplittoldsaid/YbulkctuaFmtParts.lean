/-
  fmt's stop, the decoder's methods, binary.BigEndian: contracts over this program.
-/
import Derived.Test.YbulkctuaFmtRows
import Derived.WalkKit
import Derived.ProofKit
import Derived.OpenShut
import Derived.Handy
import Derived.WalkSpells
import Derived.WalkLawsBesides
import Derived.Stop.CallBack
import Derived.Stop.IfaceNil
import Derived.Lib.Endian
import Derived.Laws.CopyOwn
import Derived.Deep.WholeRow
import Derived.Lib.EndianBits
import Derived.BigQuiet
import Derived.Deep.QuietTactic
import Derived.Deep.Draws
namespace Go.Proofs.YbulkctuaFmt
open Go.ChangeShapes Go.WideShapes Go.ChangeAt Go.RowKit Go.Extern.Stop Go.Stop Go.Extern
set_option linter.unusedVariables false

theorem call28 (args : Array Value) (w : World) : (callFunc 28 args).run Ybaf.prog w = (FmtCalls.errorf #[9, 95] #[25] args).run Ybaf.prog w :=
  run_callFunc_next Ybaf.func28 (by kernel_rfl) (by kernel_rfl) (by kernel_rfl) args w
theorem guard (name : String) (w : World) : (FmtStop.guard name).run Ybaf.prog w = .ok () w := by kernel_rfl
theorem nextTurns : Extern.next FmtCalls.turnsRow = some (FmtCalls.begun #[] #[]) := by kernel_rfl
/-- The format of 'fail'. -/
def fmtB : ByteArray := ⟨#[116, 105, 100, 101, 108, 111, 99, 107, 58, 32, 109, 97, 108, 102, 111, 114, 109, 101, 100, 32, 109, 101, 115, 115, 97, 103, 101, 32, 97, 116, 32, 98, 121, 116, 101, 32, 37, 100, 58, 32, 37, 115]⟩
theorem fmt0 : FmtStop.printed? ⟨#[116, 105, 100, 101, 108, 111, 99, 107, 58, 32, 109, 97, 108, 102, 111, 114, 109, 101, 100, 32, 109, 101, 115, 115, 97, 103, 101, 32, 97, 116, 32, 98, 121, 116, 101, 32, 37, 100, 58, 32, 37, 115]⟩ 2 = some [(0, 100, false), (1, 115, false)] := by kernel_rfl
theorem fmt0r (w : World) : (FmtDoors.printed ⟨#[116, 105, 100, 101, 108, 111, 99, 107, 58, 32, 109, 97, 108, 102, 111, 114, 109, 101, 100, 32, 109, 101, 115, 115, 97, 103, 101, 32, 97, 116, 32, 98, 121, 116, 101, 32, 37, 100, 58, 32, 37, 115]⟩ 2).run Ybaf.prog w = .ok [(0, 100, false), (1, 115, false)] w := by kernel_rfl
def shape9 : List UInt8 := [12, 6, 0, 0, 0, 0, 0, 0, 0, 115, 116, 114, 105, 110, 103]
def shape3 : List UInt8 := [5, 3, 0, 0, 0, 0, 0, 0, 0, 105, 110, 116]
theorem act9 (name : String) (x : Value) (w : World) : (FmtCalls.act name true 115 false (.iface 9 x)).run Ybaf.prog w = .ok (.closed true) w := by kernel_rfl
theorem op9 (name : String) (x : ByteArray) (w : World) : (FmtStop.operand name true 115 false (.iface 9 (.string x))).run Ybaf.prog w = .ok (shape9, FmtStop.pack x.data.toList) w := by kernel_rfl
theorem act3 (name : String) (x : Value) (w : World) : (FmtCalls.act name true 100 false (.iface 3 x)).run Ybaf.prog w = .ok (.closed true) w := by kernel_rfl
theorem op3 (name : String) (x : Int) (w : World) : (FmtStop.operand name true 100 false (.iface 3 (.int .i64 x))).run Ybaf.prog w = .ok (shape3, Go.Extern.Stop.digits 8 (x % 2 ^ 64).toNat) w := by kernel_rfl
theorem ptr78 (w : World) : (FmtStop.ptrTo "errors.errorString").run Ybaf.prog w = .ok 78 w := by kernel_rfl
theorem elem78 (w : World) : (elemOf 78).run Ybaf.prog w = .ok 80 w := by kernel_rfl

theorem errorf_any (blk : Nat) (off : Int) (s : ByteArray) (w : World) (h0 : w.cell? ⟨blk, 0, none⟩ = some (.iface 3 (.int .i64 off))) (h1 : w.cell? ⟨blk, 1, none⟩ = some (.iface 9 (.string s))) :
    Calls Ybaf.prog 23 #[.string ⟨#[116, 105, 100, 101, 108, 111, 99, 107, 58, 32, 109, 97, 108, 102, 111, 114, 109, 101, 100, 32, 109, 101, 115, 115, 97, 103, 101, 32, 97, 116, 32, 98, 121, 116, 101, 32, 37, 100, 58, 32, 37, 115]⟩, .slice (some ⟨blk, 0, none⟩) 2 2] w fun e w' =>
      e = .returned (.iface 78 (.pointer (some ⟨w.heap.size, 0, none⟩))) ∧ ∃ t, w' = (w.alloc (.cells #[.string t] 80)).drew := by
  have e1 := call28
  have e2 := guard
  have e3 := fmt0
  have e4 := fmt0r
  have e5 := act9
  have e6 := op9
  have e7 := act3
  have e8 := op3
  have e9 := ptr78
  have e10 := elem78
  go_enter Ybaf.func23, Ybaf.ntmps23
  go_wp2
  apply rows_value nextTurns
  case hr =>
    go_simp
    exact ⟨rfl, rfl⟩
  case h =>
    go_wp2
    go_ret
    exact ⟨rfl, _, rfl⟩

theorem q22 (w : World) (a : Option Addr) (n c n' c' : Nat) : (binOp .eql 22 (.slice a n c) (.slice none n' c')).run Ybaf.prog w = .ok (.bool a.isNone) w := Lib.run_eql_slice_nil w _ _ a n c n' c' Ybaf.underlying22
theorem r22 (w : World) (a : Option Addr) (n c n' c' : Nat) : (binOp .neq 22 (.slice a n c) (.slice none n' c')).run Ybaf.prog w = .ok (.bool (!a.isNone)) w := run_neq_slice_nil_any w _ _ a n c n' c' Ybaf.underlying22

/-- fail, an error noted before. -/
theorem fail_held (d : Nat) (off : Int) (s : ByteArray) (t : TypeId) (v : Value) (b : Value) (w : World) (h0 : w.cell? ⟨d, 0, none⟩ = some b) (h2 : w.cell? ⟨d, 2, none⟩ = some (.iface t v)) (f0 : w.frozen? ⟨d, 0, none⟩ = false) :
    Calls Ybaf.prog 27 #[.pointer (some ⟨d, 0, none⟩), .int .i64 off, .string s] w fun e w' => e = .returned (.tuple #[]) ∧ w' = w.setCell ⟨d, 0, none⟩ (.slice none 0 0) := by
  go_enter Ybaf.func27, Ybaf.ntmps27
  go_wp2
  go_end0
  exact ⟨rfl, rfl⟩

theorem fail_new (d : Nat) (off : Int) (s : ByteArray) (b : Value) (w : World) (h0 : w.cell? ⟨d, 0, none⟩ = some b) (h2 : w.cell? ⟨d, 2, none⟩ = some .nilIface) (f0 : w.frozen? ⟨d, 0, none⟩ = false) (f2 : w.frozen? ⟨d, 2, none⟩ = false) :
    Calls Ybaf.prog 27 #[.pointer (some ⟨d, 0, none⟩), .int .i64 off, .string s] w fun e w' => e = .returned (.tuple #[]) ∧ ∃ t, w' = ((((w.setCell ⟨d, 2, none⟩ (.iface 78 (.pointer (some ⟨w.heap.size + 1, 0, none⟩)))).setCell ⟨d, 0, none⟩ (.slice none 0 0)).alloc (.cells #[.iface 3 (.int .i64 off), .iface 9 (.string s)] 20)).alloc (.cells #[.string t] 80)).drew := by
  have hd : d < w.heap.size := World.block_lt_of_cell? _ _ h0
  have hd1 : d < w.heap.size + 1 := by omega
  go_enter Ybaf.func27, Ybaf.ntmps27
  go_wp2_with (go_at_call 23; refine (errorf_any w.heap.size off s _ (by simp) (by simp)).mono ?_; rintro e w' ⟨rfl, t, rfl⟩)
  go_end0
  exact ⟨rfl, _, rfl⟩

/-- bytes, fewer left than asked for; an error noted before. -/
theorem bytes_short_held (d n : Nat) (off : Int) (what : ByteArray) (t : TypeId) (v : Value) (ao : Option Addr) (len cap : Nat) (w : World) (hn : n < 100) (hl : len < n) (hwh : what.size ≤ 1000)
    (h0 : w.cell? ⟨d, 0, none⟩ = some (.slice ao len cap)) (h1 : w.cell? ⟨d, 1, none⟩ = some (.int .i64 off)) (h2 : w.cell? ⟨d, 2, none⟩ = some (.iface t v)) (f0 : w.frozen? ⟨d, 0, none⟩ = false) :
    Calls Ybaf.prog 18 #[.pointer (some ⟨d, 0, none⟩), .int .i64 n, .string what] w fun e w' => e = .returned (.slice none 0 0) ∧ w' = w.setCell ⟨d, 0, none⟩ (.slice none 0 0) := by
  have hl' : (len : Int) < (n : Int) := by omega
  go_enter Ybaf.func18, Ybaf.ntmps18
  go_wp2_with (go_at_call 27; refine (fail_held d off _ t v _ _ h0 h2 f0).mono ?_; rintro e w' ⟨rfl, rfl⟩)
  go_ret
  exact ⟨rfl, rfl⟩

theorem bytes_short_new (d n : Nat) (off : Int) (what : ByteArray) (ao : Option Addr) (len cap : Nat) (w : World) (hn : n < 100) (hl : len < n) (hwh : what.size ≤ 1000)
    (h0 : w.cell? ⟨d, 0, none⟩ = some (.slice ao len cap)) (h1 : w.cell? ⟨d, 1, none⟩ = some (.int .i64 off)) (h2 : w.cell? ⟨d, 2, none⟩ = some .nilIface) (f0 : w.frozen? ⟨d, 0, none⟩ = false) (f2 : w.frozen? ⟨d, 2, none⟩ = false) :
    Calls Ybaf.prog 18 #[.pointer (some ⟨d, 0, none⟩), .int .i64 n, .string what] w fun e w' => e = .returned (.slice none 0 0) ∧ ∃ t s, w' = ((((w.setCell ⟨d, 2, none⟩ (.iface 78 (.pointer (some ⟨w.heap.size + 1, 0, none⟩)))).setCell ⟨d, 0, none⟩ (.slice none 0 0)).alloc (.cells #[.iface 3 (.int .i64 off), .iface 9 (.string s)] 20)).alloc (.cells #[.string t] 80)).drew := by
  have hl' : (len : Int) < (n : Int) := by omega
  go_enter Ybaf.func18, Ybaf.ntmps18
  go_wp2_with (go_at_call 27; refine (fail_new d off _ _ _ h0 h2 f0 f2).mono ?_; rintro e w' ⟨rfl, t, rfl⟩)
  go_ret
  exact ⟨rfl, _, _, rfl⟩

theorem bytes_ok (d n : Nat) (off : Int) (what : ByteArray) (b o len cap : Nat) (w : World) (hn : n < 100) (hn0 : 0 < n) (hl : n ≤ len) (hlc : len ≤ cap) (hcap : cap ≤ maxLen) (h0 : w.cell? ⟨d, 0, none⟩ = some (.slice (some ⟨b, o, none⟩) len cap)) (h1 : w.cell? ⟨d, 1, none⟩ = some (.int .i64 off)) (f0 : w.frozen? ⟨d, 0, none⟩ = false) (f1 : w.frozen? ⟨d, 1, none⟩ = false) :
    Calls Ybaf.prog 18 #[.pointer (some ⟨d, 0, none⟩), .int .i64 n, .string what] w fun e w' => e = .returned (.slice (some ⟨b, o, none⟩) n n) ∧
      ∃ o', (n < len → o' = o + n) ∧ w' = (w.setCell ⟨d, 0, none⟩ (.slice (some ⟨b, o', none⟩) (len - n) (cap - n))).setCell ⟨d, 1, none⟩ (.int .i64 (wrap64 (off + n))) := by
  unfold maxLen at hcap
  go_enter Ybaf.func18, Ybaf.ntmps18
  go_wp2
  · go_ret
    have hc : cap = n := by assumption
    exact ⟨rfl, o, by omega, by first | rfl | (rw [hc, Nat.sub_self])⟩
  · go_ret
    exact ⟨rfl, o + n, fun _ => rfl, rfl⟩

/-- binary.BigEndian.Uint64 -/
def be8 (b0 b1 b2 b3 b4 b5 b6 b7 : Int) : Int := b7 + b6 * 256 + b5 * 65536 + b4 * 16777216 + b3 * 4294967296 + b2 * 1099511627776 + b1 * 281474976710656 + b0 * 72057594037927936

set_option maxHeartbeats 1000000 in
theorem be64 (g o n c : Nat) (b0 b1 b2 b3 b4 b5 b6 b7 : Int) (w : World) (hn : 8 ≤ n) (hr : ∀ x ∈ [b0, b1, b2, b3, b4, b5, b6, b7], 0 ≤ x ∧ x < 256)
    (c0 : w.cell? ⟨g, o, none⟩ = some (.int .u8 b0)) (c1 : w.cell? ⟨g, o + 1, none⟩ = some (.int .u8 b1)) (c2 : w.cell? ⟨g, o + 2, none⟩ = some (.int .u8 b2)) (c3 : w.cell? ⟨g, o + 3, none⟩ = some (.int .u8 b3)) (c4 : w.cell? ⟨g, o + 4, none⟩ = some (.int .u8 b4)) (c5 : w.cell? ⟨g, o + 5, none⟩ = some (.int .u8 b5)) (c6 : w.cell? ⟨g, o + 6, none⟩ = some (.int .u8 b6)) (c7 : w.cell? ⟨g, o + 7, none⟩ = some (.int .u8 b7)) :
    Calls Ybaf.prog 19 #[.agg #[], .slice (some ⟨g, o, none⟩) n c] w fun e w' => e = .returned (.int .u64 (be8 b0 b1 b2 b3 b4 b5 b6 b7)) ∧ ∃ q, w' = (w.alloc (.cells #[] 83)).drewN q := by
  have hg : g < w.heap.size := World.block_lt_of_cell? _ _ c0
  simp at hr
  obtain ⟨⟨r0, s0⟩, ⟨r1, s1⟩, ⟨r2, s2⟩, ⟨r3, s3⟩, ⟨r4, s4⟩, ⟨r5, s5⟩, ⟨r6, s6⟩, ⟨r7, s7⟩⟩ := hr
  have q0 : 0 < n := by omega
  have q1 : (1 : Int) < (n : Int) := by omega
  have q2 : (2 : Int) < (n : Int) := by omega
  have q3 : (3 : Int) < (n : Int) := by omega
  have q4 : (4 : Int) < (n : Int) := by omega
  have q5 : (5 : Int) < (n : Int) := by omega
  have q6 : (6 : Int) < (n : Int) := by omega
  have q7 : (7 : Int) < (n : Int) := by omega
  go_enter Ybaf.func19, Ybaf.ntmps19
  go_wp2
  go_quiet (fail)
  go_wp2
  go_ret
  refine ⟨?_, _, rfl⟩
  simp (disch := omega) only [u64_or8, u64_or16, u64_or24, u64_or32, u64_or40, u64_or48, u64_or56]
  rfl

def be4 (b0 b1 b2 b3 : Int) : Int := b3 + b2 * 256 + b1 * 65536 + b0 * 16777216
set_option maxHeartbeats 1000000 in
theorem be32 (g o n c : Nat) (b0 b1 b2 b3 : Int) (w : World) (hn : 4 ≤ n) (hr : ∀ x ∈ [b0, b1, b2, b3], 0 ≤ x ∧ x < 256)
    (c0 : w.cell? ⟨g, o, none⟩ = some (.int .u8 b0)) (c1 : w.cell? ⟨g, o + 1, none⟩ = some (.int .u8 b1)) (c2 : w.cell? ⟨g, o + 2, none⟩ = some (.int .u8 b2)) (c3 : w.cell? ⟨g, o + 3, none⟩ = some (.int .u8 b3)) :
    Calls Ybaf.prog 20 #[.agg #[], .slice (some ⟨g, o, none⟩) n c] w fun e w' => e = .returned (.int .u32 (be4 b0 b1 b2 b3)) ∧ ∃ q, w' = (w.alloc (.cells #[] 83)).drewN q := by
  have hg : g < w.heap.size := World.block_lt_of_cell? _ _ c0
  simp at hr
  obtain ⟨⟨r0, s0⟩, ⟨r1, s1⟩, ⟨r2, s2⟩, ⟨r3, s3⟩⟩ := hr
  have q0 : 0 < n := by omega
  have q1 : (1 : Int) < (n : Int) := by omega
  have q2 : (2 : Int) < (n : Int) := by omega
  have q3 : (3 : Int) < (n : Int) := by omega
  go_enter Ybaf.func20, Ybaf.ntmps20
  go_wp2
  go_quiet (fail)
  go_wp2
  go_ret
  refine ⟨?_, _, rfl⟩
  simp (disch := omega) only [u32_or8, u32_or16, u32_or24]
  rfl

set_option maxHeartbeats 1000000 in
theorem u64_ok (d : Nat) (off : Int) (what : ByteArray) (b o len cap : Nat) (b0 b1 b2 b3 b4 b5 b6 b7 : Int) (w : World) (hl : 8 ≤ len) (hlc : len ≤ cap) (hcap : cap ≤ maxLen) (hdb : d ≠ b) (h0 : w.cell? ⟨d, 0, none⟩ = some (.slice (some ⟨b, o, none⟩) len cap)) (h1 : w.cell? ⟨d, 1, none⟩ = some (.int .i64 off)) (f0 : w.frozen? ⟨d, 0, none⟩ = false) (f1 : w.frozen? ⟨d, 1, none⟩ = false)
    (hr : ∀ x ∈ [b0, b1, b2, b3, b4, b5, b6, b7], 0 ≤ x ∧ x < 256)
    (c0 : w.cell? ⟨b, o, none⟩ = some (.int .u8 b0)) (c1 : w.cell? ⟨b, o + 1, none⟩ = some (.int .u8 b1)) (c2 : w.cell? ⟨b, o + 2, none⟩ = some (.int .u8 b2)) (c3 : w.cell? ⟨b, o + 3, none⟩ = some (.int .u8 b3)) (c4 : w.cell? ⟨b, o + 4, none⟩ = some (.int .u8 b4)) (c5 : w.cell? ⟨b, o + 5, none⟩ = some (.int .u8 b5)) (c6 : w.cell? ⟨b, o + 6, none⟩ = some (.int .u8 b6)) (c7 : w.cell? ⟨b, o + 7, none⟩ = some (.int .u8 b7)) :
    Calls Ybaf.prog 9 #[.pointer (some ⟨d, 0, none⟩), .string what] w fun e w' => e = .returned (.int .u64 (be8 b0 b1 b2 b3 b4 b5 b6 b7)) ∧
      ∃ o' q, (8 < len → o' = o + 8) ∧ w' = (((w.setCell ⟨d, 0, none⟩ (.slice (some ⟨b, o', none⟩) (len - 8) (cap - 8))).setCell ⟨d, 1, none⟩ (.int .i64 (wrap64 (off + 8)))).alloc (.cells #[] 83)).drewN q := by
  have r := r22
  have hne : ∀ j k, (⟨d, j, none⟩ : Addr) ≠ ⟨b, k, none⟩ := by intro j k h; cases h; exact hdb rfl
  have hcs : ∀ k v, w.cell? ⟨b, k, none⟩ = some v → ∀ o', ((w.setCell ⟨d, 0, none⟩ (.slice (some ⟨b, o', none⟩) (len - 8) (cap - 8))).setCell ⟨d, 1, none⟩ (.int .i64 (wrap64 (off + 8)))).cell? ⟨b, k, none⟩ = some v := by
    intro k v h o'
    rw [World.cell?_setCell_other _ _ _ _ (hne 1 k), World.cell?_setCell_other _ _ _ _ (hne 0 k)]; exact h
  have k0 := hcs _ _ c0; have k1 := hcs _ _ c1; have k2 := hcs _ _ c2; have k3 := hcs _ _ c3; have k4 := hcs _ _ c4; have k5 := hcs _ _ c5; have k6 := hcs _ _ c6; have k7 := hcs _ _ c7
  clear hcs
  go_enter Ybaf.func9, Ybaf.ntmps9
  go_wp2_with (first
    | (go_at_call 18; refine (bytes_ok d 8 off what b o len cap _ (by omega) (by omega) hl hlc hcap h0 h1 f0 f1).mono ?_; rintro e w' ⟨rfl, o', ho', rfl⟩)
    | (go_at_call 19; refine (be64 b o 8 8 b0 b1 b2 b3 b4 b5 b6 b7 _ (by omega) hr (k0 _) (k1 _) (k2 _) (k3 _) (k4 _) (k5 _) (k6 _) (k7 _)).mono ?_; rintro e w' ⟨rfl, q, rfl⟩))
  go_ret
  exact ⟨rfl, o', q, ho', rfl⟩
set_option maxHeartbeats 1000000 in
theorem u32_ok (d : Nat) (off : Int) (what : ByteArray) (b o len cap : Nat) (b0 b1 b2 b3 : Int) (w : World) (hl : 4 ≤ len) (hlc : len ≤ cap) (hcap : cap ≤ maxLen) (hdb : d ≠ b) (h0 : w.cell? ⟨d, 0, none⟩ = some (.slice (some ⟨b, o, none⟩) len cap)) (h1 : w.cell? ⟨d, 1, none⟩ = some (.int .i64 off)) (f0 : w.frozen? ⟨d, 0, none⟩ = false) (f1 : w.frozen? ⟨d, 1, none⟩ = false)
    (hr : ∀ x ∈ [b0, b1, b2, b3], 0 ≤ x ∧ x < 256)
    (c0 : w.cell? ⟨b, o, none⟩ = some (.int .u8 b0)) (c1 : w.cell? ⟨b, o + 1, none⟩ = some (.int .u8 b1)) (c2 : w.cell? ⟨b, o + 2, none⟩ = some (.int .u8 b2)) (c3 : w.cell? ⟨b, o + 3, none⟩ = some (.int .u8 b3)) :
    Calls Ybaf.prog 10 #[.pointer (some ⟨d, 0, none⟩), .string what] w fun e w' => e = .returned (.int .u32 (be4 b0 b1 b2 b3)) ∧
      ∃ o' q, (4 < len → o' = o + 4) ∧ w' = (((w.setCell ⟨d, 0, none⟩ (.slice (some ⟨b, o', none⟩) (len - 4) (cap - 4))).setCell ⟨d, 1, none⟩ (.int .i64 (wrap64 (off + 4)))).alloc (.cells #[] 83)).drewN q := by
  have r := r22
  have hne : ∀ j k, (⟨d, j, none⟩ : Addr) ≠ ⟨b, k, none⟩ := by intro j k h; cases h; exact hdb rfl
  have hcs : ∀ k v, w.cell? ⟨b, k, none⟩ = some v → ∀ o', ((w.setCell ⟨d, 0, none⟩ (.slice (some ⟨b, o', none⟩) (len - 4) (cap - 4))).setCell ⟨d, 1, none⟩ (.int .i64 (wrap64 (off + 4)))).cell? ⟨b, k, none⟩ = some v := by
    intro k v h o'
    rw [World.cell?_setCell_other _ _ _ _ (hne 1 k), World.cell?_setCell_other _ _ _ _ (hne 0 k)]; exact h
  have k0 := hcs _ _ c0; have k1 := hcs _ _ c1; have k2 := hcs _ _ c2; have k3 := hcs _ _ c3
  clear hcs
  go_enter Ybaf.func10, Ybaf.ntmps10
  go_wp2_with (first
    | (go_at_call 18; refine (bytes_ok d 4 off what b o len cap _ (by omega) (by omega) hl hlc hcap h0 h1 f0 f1).mono ?_; rintro e w' ⟨rfl, o', ho', rfl⟩)
    | (go_at_call 20; refine (be32 b o 4 4 b0 b1 b2 b3 _ (by omega) hr (k0 _) (k1 _) (k2 _) (k3 _)).mono ?_; rintro e w' ⟨rfl, q, rfl⟩))
  go_ret
  exact ⟨rfl, o', q, ho', rfl⟩

theorem u64_short_held (d : Nat) (off : Int) (what : ByteArray) (t : TypeId) (v : Value) (ao : Option Addr) (len cap : Nat) (w : World) (hl : len < 8) (hwh : what.size ≤ 1000)
    (h0 : w.cell? ⟨d, 0, none⟩ = some (.slice ao len cap)) (h1 : w.cell? ⟨d, 1, none⟩ = some (.int .i64 off)) (h2 : w.cell? ⟨d, 2, none⟩ = some (.iface t v)) (f0 : w.frozen? ⟨d, 0, none⟩ = false) :
    Calls Ybaf.prog 9 #[.pointer (some ⟨d, 0, none⟩), .string what] w fun e w' => e = .returned (.int .u64 0) ∧ w' = w.setCell ⟨d, 0, none⟩ (.slice none 0 0) := by
  have r := r22
  go_enter Ybaf.func9, Ybaf.ntmps9
  go_wp2_with (go_at_call 18; refine (bytes_short_held d 8 off what t v ao len cap _ (by omega) hl hwh h0 h1 h2 f0).mono ?_; rintro e w' ⟨rfl, rfl⟩)
  go_ret
  exact ⟨rfl, rfl⟩

theorem u64_short_new (d : Nat) (off : Int) (what : ByteArray) (ao : Option Addr) (len cap : Nat) (w : World) (hl : len < 8) (hwh : what.size ≤ 1000)
    (h0 : w.cell? ⟨d, 0, none⟩ = some (.slice ao len cap)) (h1 : w.cell? ⟨d, 1, none⟩ = some (.int .i64 off)) (h2 : w.cell? ⟨d, 2, none⟩ = some .nilIface) (f0 : w.frozen? ⟨d, 0, none⟩ = false) (f2 : w.frozen? ⟨d, 2, none⟩ = false) :
    Calls Ybaf.prog 9 #[.pointer (some ⟨d, 0, none⟩), .string what] w fun e w' => e = .returned (.int .u64 0) ∧ ∃ t s, w' = ((((w.setCell ⟨d, 2, none⟩ (.iface 78 (.pointer (some ⟨w.heap.size + 1, 0, none⟩)))).setCell ⟨d, 0, none⟩ (.slice none 0 0)).alloc (.cells #[.iface 3 (.int .i64 off), .iface 9 (.string s)] 20)).alloc (.cells #[.string t] 80)).drew := by
  have r := r22
  go_enter Ybaf.func9, Ybaf.ntmps9
  go_wp2_with (go_at_call 18; refine (bytes_short_new d 8 off what ao len cap _ (by omega) hl hwh h0 h1 h2 f0 f2).mono ?_; rintro e w' ⟨rfl, t, s, rfl⟩)
  go_ret
  exact ⟨rfl, t, s, rfl⟩

/-- errors.New. -/
theorem new_any (s : ByteArray) (w : World) : Calls Ybaf.prog 8 #[.string s] w fun e w' => e = .returned (.iface 78 (.pointer (some ⟨w.heap.size, 0, none⟩))) ∧ w' = w.alloc (.cells #[.string s] 80) := by
  go_enter Ybaf.func8, Ybaf.ntmps8
  go_wp2
  go_ret
  exact ⟨rfl, rfl⟩

theorem info5 : (Ybaf.prog.info? 5).map (fun i => (i.zero, i.size, i.bytes)) = some (some (.int .u8 0), 1, 1) := by kernel_rfl

theorem made (n : Nat) (hn : n ≤ 1024) (W : World) : (Instr.makeSlice 22 (.int .i64 (n : Int)) (.int .i64 (n : Int))).run Ybaf.prog W = .ok (.slice (some ⟨W.heap.size, 0, none⟩) n n) (W.alloc (.cells (madeCells #[.int .u8 0] n) 5)) := by
  obtain ⟨i0, hi, hz0, hz1, hz2⟩ := info_parts info5
  have h := run_make (P := Ybaf.prog) W 22 5 i0 (.int .u8 0) Ybaf.underlying22 hi hz0 .i64 .i64 (n : Int) (n : Int) (by omega) (by omega) (by rw [hz2]; omega) (by omega)
  rw [hz1] at h
  simpa [Value.cells] using h

theorem made_copy (w : World) (x : Addr) (n cap : Nat) (zs : List Int) (hn : n ≤ zs.length) (hcell : ∀ j, j < zs.length → w.cell? (x.add j) = some (.int .u8 (zs.getD j 0))) (ty : TypeId) :
    (Builtin.copy_ #[22, 22] ty #[.slice (some ⟨w.heap.size, 0, none⟩) n n, .slice (some x) n cap]).run Ybaf.prog (w.alloc (.cells (madeCells #[.int .u8 0] n) 5)) = .ok (goInt n) (w.alloc (.cells ((zs.take n).map (Value.int .u8)).toArray 5)) := by
  have hg : (w.alloc (.cells (madeCells #[.int .u8 0] n) 5)).heap[w.heap.size]? = some (.cells (madeCells #[.int .u8 0] n) 5 (0, 0)) := by
    show (w.heap.push _)[w.heap.size]? = _
    simp
  have hl : ((zs.take n).map (Value.int .u8)).length = n := by simp; omega
  have hrun := run_copy_row (P := Ybaf.prog) (w.alloc (.cells (madeCells #[.int .u8 0] n) 5)) 22 22 ty 5 w.heap.size 0 n n x n cap (madeCells #[.int .u8 0] n) 5 ((zs.take n).map (Value.int .u8)) Ybaf.underlying22 (by kernel_rfl) hg (by rw [hl]; exact (Nat.min_self n).symm)
    (by
      intro j v hj
      have hjn : j < n := by
        have := (List.getElem?_eq_some_iff.mp hj).1
        omega
      have hc := hcell j (by omega)
      rw [World.cell?_alloc_lt _ _ _ (World.block_lt_of_cell? _ _ hc), hc, ← hj, List.getElem?_map, List.getElem?_take, if_pos hjn, List.getElem?_eq_getElem (by omega)]
      simp [List.getD_eq_getElem?_getD, List.getElem?_eq_getElem (show j < zs.length by omega)])
    (by rw [hl, size_madeCells]; omega) (ints_oneCell _ _)
  have e : ((madeCells #[.int .u8 0] n).toList.take 0 ++ (zs.take n).map (Value.int .u8) ++ (madeCells #[.int .u8 0] n).toList.drop (0 + ((zs.take n).map (Value.int .u8)).length)) = (zs.take n).map (Value.int .u8) := by
    rw [hl]
    simp [toList_madeCells_one]
  rw [e, hl, World.setRow_alloc_new] at hrun
  exact hrun

/-- The cells of the copy. -/
def cp (n : Nat) (zs : List Int) : Array Value := ((zs.take n).map (Value.int .u8)).toArray
theorem cp_at (n : Nat) (zs : List Int) (hn : n ≤ zs.length) (j : Nat) (hj : j < n) : (cp n zs)[j]? = some (.int .u8 (zs.getD j 0)) := by
  simp [cp, hj, List.getElem?_eq_getElem (show j < zs.length by omega)]

theorem copy_nil (w : World) : Calls Ybaf.prog 7 #[.slice none 0 0] w fun e w' => e = .returned (.slice none 0 0) ∧ w' = w := by
  have q := q22
  go_enter Ybaf.func7, Ybaf.ntmps7
  go_wp2
  go_ret
  exact ⟨rfl, rfl⟩

theorem copy_some (w : World) (x : Addr) (n cap : Nat) (zs : List Int) (h1 : n ≤ 1024) (hn : n ≤ zs.length) (hcell : ∀ j, j < zs.length → w.cell? (x.add j) = some (.int .u8 (zs.getD j 0))) :
    Calls Ybaf.prog 7 #[.slice (some x) n cap] w fun e w' => e = .returned (.slice (some ⟨w.heap.size, 0, none⟩) n n) ∧ w' = w.alloc (.cells (cp n zs) 5) := by
  have q := q22
  have hm := made n h1
  have hc : ∀ ty, (Builtin.copy_ #[22, 22] ty #[.slice (some ⟨w.heap.size, 0, none⟩) n n, .slice (some x) n cap]).run Ybaf.prog (w.alloc (.cells (madeCells #[.int .u8 0] n) 5)) = .ok (goInt n) (w.alloc (.cells (cp n zs) 5)) := made_copy w x n cap zs hn hcell
  clear hcell
  go_enter Ybaf.func7, Ybaf.ntmps7
  go_wp2
  go_ret
  exact ⟨rfl, rfl⟩
end Go.Proofs.YbulkctuaFmt
