/-
  The small callees: the bound on the length, clone, equal, compare, append.
-/
import Derived.Test.Qxb6608948aProg
import Derived.Test.Qxb6608948aPlain
import Derived.WalkKit
import Derived.WalkSpells
import Derived.WalkLawsBesides
import Derived.Deep.QuietTactic
import Derived.BigQuiet
import Derived.Deep.Draws
import Derived.Stop.LaidErr
import Derived.Handy
import Derived.LoopTactic
import Derived.ArgAppend
import Derived.Deep.MidRow
namespace Go.Proofs.Qxb6608948a
set_option linter.unusedSimpArgs false
set_option linter.unusedVariables false
open Go.RowKit Go.Stop

def Byte (x : Int) : Prop := 0 ≤ x ∧ x ≤ 255
/-- n bytes behind an address. -/
def Ints (b o n : Nat) (f : Nat → Int) (w : World) : Prop := ∀ m, m < n → w.cell? ⟨b, o + m, none⟩ = some (.int .u8 (f m))
theorem blk_of_cell {w : World} {a : Addr} {v : Value} (h : w.cell? a = some v) : a.block < w.heap.size := by
  rcases Nat.lt_or_ge a.block w.heap.size with h' | h'
  · exact h'
  · simp [World.cell?, Array.getElem?_eq_none h'] at h
theorem Ints.below {b o n : Nat} {f : Nat → Int} {W w1 : World} (h : Ints b o n f W) (hb : Below W.heap.size W w1) : Ints b o n f w1 := fun m hm =>
  (hb.cell (p := ⟨b, o + m, none⟩) (blk_of_cell (h m hm))).trans (h m hm)
/-- What is known of a slice of n bytes that is read. -/
def Rd (a : Option Addr) (n : Nat) (f : Nat → Int) (w : World) : Prop := 0 < n → ∃ b o, a = some ⟨b, o, none⟩ ∧ Ints b o n f w
theorem Rd.below {a : Option Addr} {n : Nat} {f : Nat → Int} {W w1 : World} (h : Rd a n f W) (hb : Below W.heap.size W w1) : Rd a n f w1 := fun hn => by
  obtain ⟨b, o, e, hi⟩ := h hn
  exact ⟨b, o, e, hi.below hb⟩

/-- The bound on the length. -/
def bytesB (n : Nat) : Bool := decide (n ≤ 1048576)
theorem ret_bool {a b : Bool} (h : a = b) : Ending.returned (.bool a) = .returned (.bool b) := by rw [h]
theorem bytes_yes {n : Nat} (h : n ≤ 1048576) : true = bytesB n := by simp [bytesB, h]
theorem bytes_no {n : Nat} (h : ¬ n ≤ 1048576) : false = bytesB n := by simp [bytesB, h]
theorem bytes_any (s t : Int) (a : Option Addr) (n c : Nat) (w : World) (l1 : n ≤ 9223372036854775807) :
    Calls Try.prog 4 #[.int .u64 s, .int .u64 t, .slice a n c] w fun e w' => e = .returned (.bool (bytesB n)) ∧ w' = w := by
  go_enter Try.func4, Try.ntmps4
  go_wp2
  all_goals (go_ret; first | exact ⟨ret_bool (bytes_yes (by omega)), rfl⟩ | exact ⟨ret_bool (bytes_no (by omega)), rfl⟩)

/-! ### wb1Equal -/
set_option maxHeartbeats 1000000 in
theorem equal_walk (b1 o1 c1 b2 o2 c2 n : Nat) (F G : Nat → Int) (w : World) (hn : n ≤ 2097152) (x1 : Ints b1 o1 n F w) (x2 : Ints b2 o2 n G w) (he : ∀ m, m < n → F m = G m) :
    Calls Try.prog 8 #[.slice (some ⟨b1, o1, none⟩) n c1, .slice (some ⟨b2, o2, none⟩) n c2] w fun e w' => e = .returned (.bool true) ∧ Below w.heap.size w w' := by
  go_enter Try.func8, Try.ntmps8
  go_wp2
  go_loopw [5] (fun i wr => ∃ k : Nat, k ≤ n ∧ i = .int .i64 k ∧ Below w.heap.size w wr) (fun i _ => n - (intOf i).toNat)
  case atStart => exact ⟨0, by omega, rfl, Below.refl _ _⟩
  case round =>
    obtain ⟨k, hk, rfl, hbl⟩ := hrel
    by_cases hlt : k < n
    · have hlt' : (k : Int) < (n : Int) := by omega
      have y1 := (x1.below hbl) k hlt
      have y2 := (x2.below hbl) k hlt
      rw [← he k hlt] at y2
      go_wp2
      go_quiet (fail)
      go_wp2
      go_roundw
      case rel => exact ⟨k + 1, by omega, by go_num, ⟨hbl.os, hbl.tape, hbl.output, hbl.size, hbl.block⟩⟩
      case measure => simp [intOf]; omega
    · go_wp2
      go_ret
      exact ⟨rfl, hbl⟩
set_option maxHeartbeats 1000000 in
theorem equal_none (a1 a2 : Option Addr) (c1 c2 : Nat) (w : World) :
    Calls Try.prog 8 #[.slice a1 0 c1, .slice a2 0 c2] w fun e w' => e = .returned (.bool true) ∧ Below w.heap.size w w' := by
  go_enter Try.func8, Try.ntmps8
  go_wp2
  refine wp_loop_rounds 1 ?_
  rw [rounds_succ]
  go_wp2
  go_ret
  exact ⟨rfl, Below.refl _ _⟩
theorem equal_any (a1 a2 : Option Addr) (c1 c2 n : Nat) (F G : Nat → Int) (w : World) (hn : n ≤ 2097152) (x1 : Rd a1 n F w) (x2 : Rd a2 n G w) (he : ∀ m, m < n → F m = G m) :
    Calls Try.prog 8 #[.slice a1 n c1, .slice a2 n c2] w fun e w' => e = .returned (.bool true) ∧ Below w.heap.size w w' := by
  rcases Nat.eq_zero_or_pos n with h | h
  · subst h; exact equal_none a1 a2 c1 c2 w
  · obtain ⟨b1, o1, rfl, y1⟩ := x1 h
    obtain ⟨b2, o2, rfl, y2⟩ := x2 h
    exact equal_walk b1 o1 c1 b2 o2 c2 n F G w hn y1 y2 he

/-! ### wb1Compare at eight bytes -/
theorem ret_int {k : IntKind} {a b : Int} (h : a = b) : Ending.returned (.int k a) = .returned (.int k b) := by rw [h]
set_option maxHeartbeats 1000000 in
theorem compare_any (b1 o1 c1 b2 o2 c2 : Nat) (F G : Nat → Int) (w : World) (x1 : Ints b1 o1 8 F w) (x2 : Ints b2 o2 8 G w) (hF : ∀ i, 0 ≤ F i ∧ F i ≤ 255) (hG : ∀ i, 0 ≤ G i ∧ G i ≤ 255) :
    Calls Try.prog 7 #[.slice (some ⟨b1, o1, none⟩) 8 c1, .slice (some ⟨b2, o2, none⟩) 8 c2] w fun e w' => e = .returned (.int .i64 (cmp8 F G)) ∧ Below w.heap.size w w' := by
  go_enter Try.func7, Try.ntmps7
  go_wp2
  go_loopw [5] (fun i wr => ∃ k : Nat, k ≤ 8 ∧ i = .int .i64 k ∧ Hid (seg F k = seg G k) ∧ Below w.heap.size w wr) (fun i _ => 8 - (intOf i).toNat)
  case atStart => exact ⟨0, by omega, rfl, rfl, Below.refl _ _⟩
  case round =>
    obtain ⟨k, hk, rfl, hs, hbl⟩ := hrel
    by_cases hlt : k < 8
    · have hlt' : (k : Int) < 8 := by omega
      have y1 := (x1.below hbl) k hlt
      have y2 := (x2.below hbl) k hlt
      by_cases g1 : F k < G k
      · go_wp2
        go_quiet (fail)
        go_wp2
        go_ret
        exact ⟨ret_int (cmp8_lt F G hF hG k hlt hs.out g1).symm, ⟨hbl.os, hbl.tape, hbl.output, hbl.size, hbl.block⟩⟩
      · by_cases g2 : G k < F k
        · go_wp2
          go_quiet (fail)
          go_wp2
          go_quiet (fail)
          go_wp2
          go_ret
          exact ⟨ret_int (cmp8_gt F G hF hG k hlt hs.out g2).symm, ⟨hbl.os, hbl.tape, hbl.output, hbl.size, hbl.block⟩⟩
        · go_wp2
          go_quiet (fail)
          go_wp2
          go_quiet (fail)
          go_wp2
          go_roundw
          case rel => exact ⟨k + 1, by omega, by go_num, (by have := hs.out; show seg F k * 256 + F k = seg G k * 256 + G k; omega), ⟨hbl.os, hbl.tape, hbl.output, hbl.size, hbl.block⟩⟩
          case measure => simp [intOf]; omega
    · have hk8 : k = 8 := by omega
      subst hk8
      go_wp2
      go_ret
      exact ⟨ret_int (cmp8_eq F G hs.out).symm, hbl⟩
end Go.Proofs.Qxb6608948a
