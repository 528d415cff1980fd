/-
  The small callees: the bounds, the places, their order.
-/
import Derived.Test.Qxb6608988aProg
import Derived.WalkKit
import Derived.WalkSpells
import Derived.WalkLawsBesides
import Derived.Deep.QuietTactic
import Derived.BigQuiet
import Derived.Deep.Draws
import Derived.Handy
import Derived.LoopTactic
import Derived.Deep.RegionWith
import Derived.Deep.RegionLawGrows
import Derived.Deep.RegionHeldLaw
import Derived.ArgAppend
import Derived.Deep.MidRow
namespace Go.Proofs.Qxb6608988a
set_option linter.unusedSimpArgs false
set_option linter.unusedVariables false
open Go.RowKit

/-- One place before another. -/
def lt (a b c d : Int) : Bool := decide (a < c) || (a == c && decide (b < d))

theorem pos_10 (l c : Int) (w : World) : Calls Try.prog 10 #[.int .i64 l, .int .i64 c] w fun e w' => e = .returned (.agg #[.int .i64 l, .int .i64 c]) ∧ w' = w.alloc (.cells #[.int .i64 l, .int .i64 c] 30) := by
  go_enter Try.func10, Try.ntmps10
  go_wp2
  exact bodyPost_ret (v := .agg #[.int .i64 l, .int .i64 c]) (by simp [results, Try.results10, go_sem]) rfl ⟨rfl, rfl⟩

set_option maxHeartbeats 1000000 in
theorem before_29 (a b c d : Int) (w : World) : Calls Try.prog 29 #[.agg #[.int .i64 a, .int .i64 b], .agg #[.int .i64 c, .int .i64 d]] w fun e w' => e = .returned (.bool (lt a b c d)) ∧ Below w.heap.size w w' := by
  go_enter Try.func29, Try.ntmps29
  unfold lt
  by_cases h1 : a < c
  · go_wp2
    go_ret
    exact ⟨by simp [h1], by go_grown⟩
  · by_cases h2 : a = c
    · by_cases h3 : b < d
      · go_wp2
        go_ret
        exact ⟨by simp [h2, h3], by go_grown⟩
      · go_wp2
        go_ret
        exact ⟨by simp [h2, h3], by go_grown⟩
    · go_wp2
      go_ret
      exact ⟨by simp [h1, h2], by go_grown⟩

set_option maxHeartbeats 1000000 in
theorem less_25 (a b c d : Int) (s t : ByteArray) (w : World) : Calls Try.prog 25 #[.agg #[.int .i64 a, .int .i64 b, .string s], .agg #[.int .i64 c, .int .i64 d, .string t]] w fun e w' => e = .returned (.bool (lt a b c d)) ∧ Below w.heap.size w w' := by
  go_enter Try.func25, Try.ntmps25
  unfold lt
  by_cases h1 : a < c
  · go_wp2
    go_ret
    exact ⟨by simp [h1], by go_grown⟩
  · by_cases h2 : a = c
    · by_cases h3 : b < d
      · go_wp2
        go_ret
        exact ⟨by simp [h2, h3], by go_grown⟩
      · go_wp2
        go_ret
        exact ⟨by simp [h2, h3], by go_grown⟩
    · go_wp2
      go_ret
      exact ⟨by simp [h1, h2], by go_grown⟩

end Go.Proofs.Qxb6608988a
