/-
  Walks over internal/byteorder and encoding/binary: eight bytes read as a word, a word laid as eight bytes.
-/
import Derived.Test.Qxb6608729aDoorProg
import Derived.WalkKit
import Derived.WalkSpells
import Derived.WalkLawsBesides
import Derived.Lib.EndianBits
import Derived.Deep.QuietTactic
import Derived.BigQuiet
import Derived.Deep.Draws
import Derived.Stop.LaidErr
namespace Go.Proofs.Qxb6608729aDoor
set_option linter.unusedSimpArgs false
set_option linter.unusedVariables false
open Go.RowKit Go.Stop

/-- The word that eight bytes spell, the greatest first. -/
def be8 (b0 b1 b2 b3 b4 b5 b6 b7 : Int) : Int := b7 + b6 * 256 + b5 * 65536 + b4 * 16777216 + b3 * 4294967296 + b2 * 1099511627776 + b1 * 281474976710656 + b0 * 72057594037927936

/-- A byte. -/
def Byte (x : Int) : Prop := 0 ≤ x ∧ x ≤ 255

set_option maxHeartbeats 1000000 in
/-- internal/byteorder.BEUint64. -/
theorem be64_any (g o n c : Nat) (b0 b1 b2 b3 b4 b5 b6 b7 : Int) (w : World) (hn : 8 ≤ n)
    (y0 : Byte b0) (y1 : Byte b1) (y2 : Byte b2) (y3 : Byte b3) (y4 : Byte b4) (y5 : Byte b5) (y6 : Byte b6) (y7 : Byte b7)
    (c0 : w.cell? ⟨g, o, none⟩ = some (.int .u8 b0)) (c1 : w.cell? ⟨g, o + 1, none⟩ = some (.int .u8 b1)) (c2 : w.cell? ⟨g, o + 2, none⟩ = some (.int .u8 b2)) (c3 : w.cell? ⟨g, o + 3, none⟩ = some (.int .u8 b3))
    (c4 : w.cell? ⟨g, o + 4, none⟩ = some (.int .u8 b4)) (c5 : w.cell? ⟨g, o + 5, none⟩ = some (.int .u8 b5)) (c6 : w.cell? ⟨g, o + 6, none⟩ = some (.int .u8 b6)) (c7 : w.cell? ⟨g, o + 7, none⟩ = some (.int .u8 b7)) :
    Calls Tryd.prog 41 #[.slice (some ⟨g, o, none⟩) n c] w fun e w' => e = .returned (.int .u64 (be8 b0 b1 b2 b3 b4 b5 b6 b7)) ∧ ∃ k, w' = w.drewN k := by
  obtain ⟨l0, h0⟩ := y0; obtain ⟨l1, h1⟩ := y1; obtain ⟨l2, h2⟩ := y2; obtain ⟨l3, h3⟩ := y3; obtain ⟨l4, h4⟩ := y4; obtain ⟨l5, h5⟩ := y5; obtain ⟨l6, h6⟩ := y6; obtain ⟨l7, h7⟩ := y7
  have q0 : 0 < n := by omega
  have q1 : (1 : Int) < (n : Int) := by omega
  have q2 : (2 : Int) < (n : Int) := by omega
  have q3 : (3 : Int) < (n : Int) := by omega
  have q4 : (4 : Int) < (n : Int) := by omega
  have q5 : (5 : Int) < (n : Int) := by omega
  have q6 : (6 : Int) < (n : Int) := by omega
  have q7 : (7 : Int) < (n : Int) := by omega
  go_enter Tryd.func41, Tryd.ntmps41
  go_wp2
  go_quiet (fail)
  go_wp2
  go_ret
  refine ⟨?_, _, rfl⟩
  simp (disch := omega) only [u64_wrap_id, u64_or8, u64_or16, u64_or24, u64_or32, u64_or40, u64_or48, u64_or56]
  rfl

set_option maxHeartbeats 1000000 in
/-- binary.BigEndian.Uint64. -/
theorem uint64_any (g o n c : Nat) (b0 b1 b2 b3 b4 b5 b6 b7 : Int) (w : World) (hn : 8 ≤ n)
    (y0 : Byte b0) (y1 : Byte b1) (y2 : Byte b2) (y3 : Byte b3) (y4 : Byte b4) (y5 : Byte b5) (y6 : Byte b6) (y7 : Byte b7)
    (c0 : w.cell? ⟨g, o, none⟩ = some (.int .u8 b0)) (c1 : w.cell? ⟨g, o + 1, none⟩ = some (.int .u8 b1)) (c2 : w.cell? ⟨g, o + 2, none⟩ = some (.int .u8 b2)) (c3 : w.cell? ⟨g, o + 3, none⟩ = some (.int .u8 b3))
    (c4 : w.cell? ⟨g, o + 4, none⟩ = some (.int .u8 b4)) (c5 : w.cell? ⟨g, o + 5, none⟩ = some (.int .u8 b5)) (c6 : w.cell? ⟨g, o + 6, none⟩ = some (.int .u8 b6)) (c7 : w.cell? ⟨g, o + 7, none⟩ = some (.int .u8 b7)) :
    Calls Tryd.prog 73 #[.agg #[], .slice (some ⟨g, o, none⟩) n c] w fun e w' => e = .returned (.int .u64 (be8 b0 b1 b2 b3 b4 b5 b6 b7)) ∧ ∃ k, w' = (w.alloc (.cells #[] 115)).drewN k := by
  obtain ⟨l0, h0⟩ := y0; obtain ⟨l1, h1⟩ := y1; obtain ⟨l2, h2⟩ := y2; obtain ⟨l3, h3⟩ := y3; obtain ⟨l4, h4⟩ := y4; obtain ⟨l5, h5⟩ := y5; obtain ⟨l6, h6⟩ := y6; obtain ⟨l7, h7⟩ := y7
  have d0 := cell?_alloc_old (.cells #[] 115) c0
  have d1 := cell?_alloc_old (.cells #[] 115) c1
  have d2 := cell?_alloc_old (.cells #[] 115) c2
  have d3 := cell?_alloc_old (.cells #[] 115) c3
  have d4 := cell?_alloc_old (.cells #[] 115) c4
  have d5 := cell?_alloc_old (.cells #[] 115) c5
  have d6 := cell?_alloc_old (.cells #[] 115) c6
  have d7 := cell?_alloc_old (.cells #[] 115) c7
  have q0 : 0 < n := by omega
  have q1 : (1 : Int) < (n : Int) := by omega
  have q2 : (2 : Int) < (n : Int) := by omega
  have q3 : (3 : Int) < (n : Int) := by omega
  have q4 : (4 : Int) < (n : Int) := by omega
  have q5 : (5 : Int) < (n : Int) := by omega
  have q6 : (6 : Int) < (n : Int) := by omega
  have q7 : (7 : Int) < (n : Int) := by omega
  go_enter Tryd.func73, Tryd.ntmps73
  go_wp2
  go_quiet (fail)
  go_wp2
  go_ret
  refine ⟨?_, _, rfl⟩
  simp (disch := omega) only [u64_wrap_id, u64_or8, u64_or16, u64_or24, u64_or32, u64_or40, u64_or48, u64_or56]
  rfl

/-- The bytes of a word, the greatest first. -/
def w0 (v : Int) : Int := v / 72057594037927936
def w1 (v : Int) : Int := v / 281474976710656 % 256
def w2 (v : Int) : Int := v / 1099511627776 % 256
def w3 (v : Int) : Int := v / 4294967296 % 256
def w4 (v : Int) : Int := v / 16777216 % 256
def w5 (v : Int) : Int := v / 65536 % 256
def w6 (v : Int) : Int := v / 256 % 256
def w7 (v : Int) : Int := v % 256
theorem w0_byte (v : Int) (h0 : 0 ≤ v) (h : v < 18446744073709551616) : Byte (w0 v) := by unfold w0 Byte; omega
theorem w1_byte (v : Int) : Byte (w1 v) := by unfold w1 Byte; omega
theorem w2_byte (v : Int) : Byte (w2 v) := by unfold w2 Byte; omega
theorem w3_byte (v : Int) : Byte (w3 v) := by unfold w3 Byte; omega
theorem w4_byte (v : Int) : Byte (w4 v) := by unfold w4 Byte; omega
theorem w5_byte (v : Int) : Byte (w5 v) := by unfold w5 Byte; omega
theorem w6_byte (v : Int) : Byte (w6 v) := by unfold w6 Byte; omega
theorem w7_byte (v : Int) : Byte (w7 v) := by unfold w7 Byte; omega
theorem be8_w (v : Int) : be8 (w0 v) (w1 v) (w2 v) (w3 v) (w4 v) (w5 v) (w6 v) (w7 v) = v := by
  unfold be8 w0 w1 w2 w3 w4 w5 w6 w7; omega

/-- Eight cells laid one behind the other. -/
def put8 (w : World) (g o : Nat) (v : Int) : World :=
  (((((((w.setCell ⟨g, o, none⟩ (.int .u8 (w0 v))).setCell ⟨g, o + 1, none⟩ (.int .u8 (w1 v))).setCell ⟨g, o + 2, none⟩ (.int .u8 (w2 v))).setCell ⟨g, o + 3, none⟩ (.int .u8 (w3 v))).setCell ⟨g, o + 4, none⟩ (.int .u8 (w4 v))).setCell ⟨g, o + 5, none⟩ (.int .u8 (w5 v))).setCell ⟨g, o + 6, none⟩ (.int .u8 (w6 v))).setCell ⟨g, o + 7, none⟩ (.int .u8 (w7 v))

set_option maxHeartbeats 1000000 in
/-- internal/byteorder.BEPutUint64. -/
theorem put64_any (g o n c : Nat) (v : Int) (hv0 : 0 ≤ v) (hv : v < 18446744073709551616) (x0 x1 x2 x3 x4 x5 x6 x7 : Value) (w : World) (hn : 8 ≤ n)
    (c0 : w.cell? ⟨g, o, none⟩ = some x0) (c1 : w.cell? ⟨g, o + 1, none⟩ = some x1) (c2 : w.cell? ⟨g, o + 2, none⟩ = some x2) (c3 : w.cell? ⟨g, o + 3, none⟩ = some x3) (c4 : w.cell? ⟨g, o + 4, none⟩ = some x4) (c5 : w.cell? ⟨g, o + 5, none⟩ = some x5) (c6 : w.cell? ⟨g, o + 6, none⟩ = some x6) (c7 : w.cell? ⟨g, o + 7, none⟩ = some x7)
    (f0 : w.frozen? ⟨g, o, none⟩ = false) (f1 : w.frozen? ⟨g, o + 1, none⟩ = false) (f2 : w.frozen? ⟨g, o + 2, none⟩ = false) (f3 : w.frozen? ⟨g, o + 3, none⟩ = false) (f4 : w.frozen? ⟨g, o + 4, none⟩ = false) (f5 : w.frozen? ⟨g, o + 5, none⟩ = false) (f6 : w.frozen? ⟨g, o + 6, none⟩ = false) (f7 : w.frozen? ⟨g, o + 7, none⟩ = false) :
    Calls Tryd.prog 84 #[.slice (some ⟨g, o, none⟩) n c, .int .u64 v] w fun e w' => e = .returned (.tuple #[]) ∧ w' = put8 w g o v := by
  have q0 : 0 < n := by omega
  have q1 : (1 : Int) < (n : Int) := by omega
  have q2 : (2 : Int) < (n : Int) := by omega
  have q3 : (3 : Int) < (n : Int) := by omega
  have q4 : (4 : Int) < (n : Int) := by omega
  have q5 : (5 : Int) < (n : Int) := by omega
  have q6 : (6 : Int) < (n : Int) := by omega
  have q7 : (7 : Int) < (n : Int) := by omega
  go_enter Tryd.func84, Tryd.ntmps84
  go_wp2
  go_end0
  exact ⟨rfl, rfl⟩

end Go.Proofs.Qxb6608729aDoor
