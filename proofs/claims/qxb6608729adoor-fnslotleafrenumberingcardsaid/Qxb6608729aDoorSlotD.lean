/-
  FnSlotLeafRenumbering: the ways on which the law speaks of nothing; the wrappers; the two ways through a leaf.
-/
import Derived.Test.Qxb6608729aDoorSlotC
import Derived.Laws.CopyOwn
import Derived.Deep.RegionWith
namespace Go.Proofs.Qxb6608729aDoor
set_option linter.unusedSimpArgs false
set_option linter.unusedVariables false
open Go.RowKit Go.Stop

/-- ZZslot. -/
theorem zslot_many (R : Nat) (i j h : Int) (w : World) (c1 : w.cell? ⟨R, 1, none⟩ = some (.bool false)) (h0 : 0 ≤ i) (h1 : i + 1 < j) (h2 : j ≤ 32768) :
    Calls Tryd.prog 18 #[.pointer (some ⟨R, 0, none⟩), .int .i64 i, .int .i64 j, .int .u64 h, .int .u64 0] w fun e w' => e = .returned (.int .u32 (kindOf (j - i) + i)) ∧ w' = w := by
  have hs := slot_many R i j h w c1 h0 h1 h2
  go_enter Tryd.func18, Tryd.ntmps18
  go_wp2_with (go_at_call 26; refine hs.mono ?_; rintro e w' ⟨rfl, rfl⟩)
  go_ret
  exact ⟨rfl, rfl⟩
theorem zslot_one (R B n c i : Nat) (j h f a : Int) (w : World) (c0 : w.cell? ⟨R, 0, none⟩ = some (.slice (some ⟨B, 0, none⟩) n c)) (hi : i < n) (hj : j - (i : Int) = 1) (ca : w.cell? ⟨B, i * 3 + 2, none⟩ = some (.int .u32 a)) (hn : i ≤ 32768) :
    Calls Tryd.prog 18 #[.pointer (some ⟨R, 0, none⟩), .int .i64 i, .int .i64 j, .int .u64 h, .int .u64 f] w fun e w' => e = .returned (.int .u32 a) ∧ w' = w := by
  have hs := slot_one R B n c i j h f a w c0 hi hj ca hn
  clear hj
  go_enter Tryd.func18, Tryd.ntmps18
  go_wp2_with (go_at_call 26; refine hs.mono ?_; rintro e w' ⟨rfl, rfl⟩)
  go_ret
  exact ⟨rfl, rfl⟩
theorem zslot_first (R B n c : Nat) (h f a : Int) (w : World) (c0 : w.cell? ⟨R, 0, none⟩ = some (.slice (some ⟨B, 0, none⟩) n c)) (hi : 0 < n) (ca : w.cell? ⟨B, 2, none⟩ = some (.int .u32 a)) :
    Calls Tryd.prog 18 #[.pointer (some ⟨R, 0, none⟩), .int .i64 0, .int .i64 1, .int .u64 h, .int .u64 f] w fun e w' => e = .returned (.int .u32 a) ∧ w' = w :=
  zslot_one R B n c 0 1 h f a w c0 hi (by simp) (by simpa using ca) (by omega)

section
variable (a1 a2 a3 : Option Addr) (n1 n2 n3 m1 m2 m3 : Nat) (v4 : Bool) (i j h f : Int) (w : World)
set_option maxHeartbeats 1000000 in
/-- Too long, or beyond 1<<15, or no block of the law's. -/
theorem law5_no (l1 : n1 ≤ 9223372036854775807) (l2 : n2 ≤ 9223372036854775807) (l3 : n3 ≤ 9223372036854775807)
    (hno : bytesB n1 n2 n3 = true → n1 ≤ 32768 → n2 ≤ 32768 → n3 ≤ 32768 → ∀ w, Calls Tryd.prog 16 #[.slice a1 n1 m1, .slice a2 n2 m2, .slice a3 n3 m3, .bool v4, .int .i64 i, .int .i64 j, .int .u64 h, .int .u64 f] w fun e w' => e = .returned (.bool false) ∧ w' = w) :
    Calls Tryd.prog 5 #[.slice a1 n1 m1, .slice a2 n2 m2, .slice a3 n3 m3, .bool v4, .int .i64 i, .int .i64 j, .int .u64 h, .int .u64 f] w fun e w' => e = .returned (.bool true) ∧ w' = w := by
  have hby := fun w => bytes_any a1 a2 a3 n1 n2 n3 m1 m2 m3 v4 i j h f w l1 l2 l3
  rcases hb : bytesB n1 n2 n3 with _ | _
  · rw [hb] at hby
    clear hno hb
    go_enter Tryd.func5, Tryd.ntmps5
    go_wp2_with (go_at_call 15; refine (hby _).mono ?_; rintro e w' ⟨rfl, rfl⟩)
    go_ret
    exact ⟨rfl, rfl⟩
  · rw [hb] at hby
    by_cases g1 : n1 ≤ 32768
    · by_cases g2 : n2 ≤ 32768
      · by_cases g3 : n3 ≤ 32768
        · have hd := hno hb g1 g2 g3
          clear hno hb
          go_enter Tryd.func5, Tryd.ntmps5
          go_wp2_with (first | (go_at_call 15; refine (hby _).mono ?_; rintro e w' ⟨rfl, rfl⟩) | (go_at_call 16; refine (hd _).mono ?_; rintro e w' ⟨rfl, rfl⟩))
          go_ret
          exact ⟨rfl, rfl⟩
        · clear hno hb
          go_enter Tryd.func5, Tryd.ntmps5
          go_wp2_with (go_at_call 15; refine (hby _).mono ?_; rintro e w' ⟨rfl, rfl⟩)
          go_ret
          exact ⟨rfl, rfl⟩
      · clear hno hb
        go_enter Tryd.func5, Tryd.ntmps5
        go_wp2_with (go_at_call 15; refine (hby _).mono ?_; rintro e w' ⟨rfl, rfl⟩)
        go_ret
        exact ⟨rfl, rfl⟩
    · clear hno hb
      go_enter Tryd.func5, Tryd.ntmps5
      go_wp2_with (go_at_call 15; refine (hby _).mono ?_; rintro e w' ⟨rfl, rfl⟩)
      go_ret
      exact ⟨rfl, rfl⟩
end
end Go.Proofs.Qxb6608729aDoor
