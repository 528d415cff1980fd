/-
  The second law's bound on length.
-/
import Derived.Test.Qxb6608988aBnd
namespace Go.Proofs.Qxb6608988a
set_option linter.unusedSimpArgs false
set_option linter.unusedVariables false
open Go.RowKit

set_option maxHeartbeats 2000000 in
theorem bytes_26 (a : Option Addr) (n c : Nat) (L C : Nat → Int) (M : Nat → ByteArray) (w : World) (r : Fl a n L C M w) : Calls Try.prog 26 #[.slice a n c] w fun e w' => SomeBool e ∧ w' = w := by
  by_cases hn : n ≤ 1048576
  · have hn' : (n : Int) ≤ 1048576 := by omega
    go_enter Try.func26, Try.ntmps26
    go_wp2
    go_loop [3, 4] (fun z i => ∃ (k : Nat) (s : Int), k ≤ n ∧ z = .int .i64 s ∧ i = .int .i64 k) (fun _ i => n - (intOf i).toNat)
    case atStart => exact ⟨0, _, by omega, rfl, rfl⟩
    case round =>
      obtain ⟨k, s, hk, rfl, rfl⟩ := hrel
      by_cases hlt : k < n
      · have hlt' : (k : Int) < (n : Int) := by omega
        obtain ⟨b, o, rfl, hc⟩ := r (by omega)
        obtain ⟨h1, h2, h3, h4⟩ := hc k hlt
        clear hc
        go_wp2
        all_goals first
          | (go_ret; exact ⟨⟨_, rfl⟩, rfl⟩)
          | (refine ⟨⟨k + 1, _, by omega, rfl, by go_num⟩, ?_⟩
             simp [intOf]; omega)
      · have hkn : k = n := by omega
        subst hkn
        go_wp2
        go_ret
        exact ⟨⟨_, rfl⟩, rfl⟩
  · have hn' : (1048576 : Int) < n := by omega
    go_enter Try.func26, Try.ntmps26
    go_wp2
    go_ret
    exact ⟨⟨_, rfl⟩, rfl⟩

end Go.Proofs.Qxb6608988a
