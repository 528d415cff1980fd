/-
  FnSlotLeafRenumbering: the small callees.
-/
import Derived.Test.Qxb6608729aDoorProg
import Derived.WalkKit
import Derived.WalkSpells
import Derived.WalkLawsBesides
import Derived.Deep.QuietTactic
import Derived.BigQuiet
import Derived.Deep.Draws
import Derived.Stop.LaidErr
import Derived.Handy
import Derived.Lib.EndianBits
namespace Go.Proofs.Qxb6608729aDoor
set_option linter.unusedSimpArgs false
set_option linter.unusedVariables false
open Go.RowKit Go.Stop

/-- zzStartLess. -/
def slB (h1 l1 h2 l2 : Int) : Bool := decide (h1 < h2) || (decide (h1 = h2) && decide (l1 < l2))
theorem startLess_any (h1 l1 h2 l2 : Int) (w : World) :
    Calls Tryd.prog 25 #[.int .u64 h1, .int .u64 l1, .int .u64 h2, .int .u64 l2] w fun e w' => e = .returned (.bool (slB h1 l1 h2 l2)) ∧ w' = w := by
  by_cases a : h1 < h2
  · have e : slB h1 l1 h2 l2 = true := by simp [slB, a]
    rw [e]
    go_enter Tryd.func25, Tryd.ntmps25
    go_wp2
    go_ret
    exact ⟨rfl, rfl⟩
  · by_cases b : h1 = h2
    · subst b
      by_cases c : l1 < l2
      · have e : slB h1 l1 h1 l2 = true := by simp [slB, c]
        rw [e]
        go_enter Tryd.func25, Tryd.ntmps25
        go_wp2
        go_ret
        exact ⟨rfl, rfl⟩
      · have e : slB h1 l1 h1 l2 = false := by simp [slB, c]
        rw [e]
        go_enter Tryd.func25, Tryd.ntmps25
        go_wp2
        go_ret
        exact ⟨rfl, rfl⟩
    · have e : slB h1 l1 h2 l2 = false := by simp [slB, a, b]
      have b' : (h1 == h2) = false := by simp [b]
      rw [e]
      go_enter Tryd.func25, Tryd.ntmps25
      go_wp2
      go_ret
      exact ⟨rfl, rfl⟩

/-- zzBytes_FnSlotLeafRenumbering: do the lengths sum to at most 1<<20? -/
def bytesB (n1 n2 n3 : Nat) : Bool := decide (n1 + n2 + n3 ≤ 1048576)
theorem ret_bool {a b : Bool} (h : a = b) : Ending.returned (.bool a) = .returned (.bool b) := by rw [h]
theorem bytes_yes {n1 n2 n3 : Nat} (h : n1 + n2 + n3 ≤ 1048576) : true = bytesB n1 n2 n3 := by simp [bytesB, h]
theorem bytes_no {n1 n2 n3 : Nat} (h : ¬ n1 + n2 + n3 ≤ 1048576) : false = bytesB n1 n2 n3 := by simp [bytesB, h]
theorem bytes_any (a1 a2 a3 : Option Addr) (n1 n2 n3 m1 m2 m3 : Nat) (v4 : Bool) (i j h f : Int) (w : World) (l1 : n1 ≤ 9223372036854775807) (l2 : n2 ≤ 9223372036854775807) (l3 : n3 ≤ 9223372036854775807) :
    Calls Tryd.prog 15 #[.slice a1 n1 m1, .slice a2 n2 m2, .slice a3 n3 m3, .bool v4, .int .i64 i, .int .i64 j, .int .u64 h, .int .u64 f] w fun e w' => e = .returned (.bool (bytesB n1 n2 n3)) ∧ w' = w := by
  go_enter Tryd.func15, Tryd.ntmps15
  go_wp2
  all_goals (go_ret; first | exact ⟨ret_bool (bytes_yes (by omega)), rfl⟩ | exact ⟨ret_bool (bytes_no (by omega)), rfl⟩)

/-- scans at a block with no bits of its head left. -/
theorem scans_v6 (R : Nat) (i j : Int) (w : World) (c1 : w.cell? ⟨R, 1, none⟩ = some (.bool false)) (h0 : 0 ≤ i) (h1 : i ≤ j) (h2 : j ≤ 32768) :
    Calls Tryd.prog 35 #[.pointer (some ⟨R, 0, none⟩), .int .i64 i, .int .i64 j, .int .u64 0] w fun e w' => e = .returned (.bool (decide (j - i ≤ 9))) ∧ w' = w := by
  by_cases a : j - i ≤ 9
  · rw [decide_eq_true a]
    go_enter Tryd.func35, Tryd.ntmps35
    go_wp2
    go_ret
    exact ⟨rfl, rfl⟩
  · rw [decide_eq_false a]
    go_enter Tryd.func35, Tryd.ntmps35
    go_wp2
    go_ret
    exact ⟨rfl, rfl⟩

/-- Several runs: the kind of the slot. -/
def kindOf (d : Int) : Int := if d ≤ 9 then 1610612736 else 1073741824
theorem or_kind (d x : Int) (x0 : 0 ≤ x) (x1 : x ≤ 32768) : bits .or .u32 (kindOf d) x = kindOf d + x := by
  unfold kindOf
  split
  · exact bits_join .u32 32 (by decide) wraps_u32 29 1610612736 x (by omega) (by omega) (by omega) x0 (by omega) (by omega)
  · exact bits_join .u32 32 (by decide) wraps_u32 29 1073741824 x (by omega) (by omega) (by omega) x0 (by omega) (by omega)

set_option maxHeartbeats 1000000 in
theorem slot_many (R : Nat) (i j h : Int) (w : World) (c1 : w.cell? ⟨R, 1, none⟩ = some (.bool false)) (h0 : 0 ≤ i) (h1 : i + 1 < j) (h2 : j ≤ 32768) :
    Calls Tryd.prog 26 #[.pointer (some ⟨R, 0, none⟩), .int .i64 i, .int .i64 j, .int .u64 h, .int .u64 0] w fun e w' => e = .returned (.int .u32 (kindOf (j - i) + i)) ∧ w' = w := by
  have hs := scans_v6 R i j w c1 h0 (by omega) h2
  have ho := or_kind (j - i) i h0 (by omega)
  have hne : (j - i == 1) = false := by simp; omega
  have hwi : IntKind.u32.wrap i = i := u32_wrap_id i h0 (by omega)
  by_cases a : j - i ≤ 9
  · have hk : kindOf (j - i) = 1610612736 := by simp [kindOf, a]
    rw [decide_eq_true a] at hs
    rw [hk] at ho ⊢
    clear hk
    go_enter Tryd.func26, Tryd.ntmps26
    go_wp2_with (go_at_call 35; refine hs.mono ?_; rintro e w' ⟨rfl, rfl⟩)
    go_ret
    exact ⟨rfl, rfl⟩
  · have hk : kindOf (j - i) = 1073741824 := by simp [kindOf, a]
    rw [decide_eq_false a] at hs
    rw [hk] at ho ⊢
    clear hk
    go_enter Tryd.func26, Tryd.ntmps26
    go_wp2_with (go_at_call 35; refine hs.mono ?_; rintro e w' ⟨rfl, rfl⟩)
    go_ret
    exact ⟨rfl, rfl⟩

set_option maxHeartbeats 1000000 in
theorem slot_one (R B n c i : Nat) (j h f a : Int) (w : World) (c0 : w.cell? ⟨R, 0, none⟩ = some (.slice (some ⟨B, 0, none⟩) n c)) (hi : i < n) (hj : j - (i : Int) = 1) (ca : w.cell? ⟨B, i * 3 + 2, none⟩ = some (.int .u32 a)) (hn : i ≤ 32768) :
    Calls Tryd.prog 26 #[.pointer (some ⟨R, 0, none⟩), .int .i64 i, .int .i64 j, .int .u64 h, .int .u64 f] w fun e w' => e = .returned (.int .u32 a) ∧ w' = w := by
  have hi' : (i : Int) < (n : Int) := by omega
  go_enter Tryd.func26, Tryd.ntmps26
  go_wp2
  go_ret
  exact ⟨rfl, rfl⟩
end Go.Proofs.Qxb6608729aDoor
