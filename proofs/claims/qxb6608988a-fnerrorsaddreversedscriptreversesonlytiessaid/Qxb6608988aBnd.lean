/-
  The faults in memory; the bounds on their length.
-/
import Derived.Test.Qxb6608988aKit
namespace Go.Proofs.Qxb6608988a
set_option linter.unusedSimpArgs false
set_option linter.unusedVariables false
open Go.RowKit

def SomeBool (e : Ending) : Prop := ∃ b, e = .returned (.bool b)
def SomeInt (e : Ending) : Prop := ∃ s : Int, e = .returned (.int .i64 s)

/-- The faults' cells. -/
def Fl (a : Option Addr) (n : Nat) (L C : Nat → Int) (M : Nat → ByteArray) (w : World) : Prop :=
  0 < n → ∃ b o, a = some ⟨b, o, none⟩ ∧ ∀ m, m < n → w.cell? ⟨b, o + m * 3, none⟩ = some (.int .i64 (L m)) ∧ w.cell? ⟨b, o + m * 3 + 1, none⟩ = some (.int .i64 (C m)) ∧ w.cell? ⟨b, o + m * 3 + 2, none⟩ = some (.string (M m)) ∧ (M m).size ≤ maxLen
theorem Fl.on {a : Option Addr} {n B : Nat} {L C : Nat → Int} {M : Nat → ByteArray} {w w' : World} (h : Fl a n L C M w) (hb : Below B w w') (hB : w.heap.size ≤ B) : Fl a n L C M w' := fun hn => by
  obtain ⟨b, o, rfl, hc⟩ := h hn
  refine ⟨b, o, rfl, fun m hm => ?_⟩
  obtain ⟨h1, h2, h3, h4⟩ := hc m hm
  have hlt := World.block_lt_of_cell? w _ h1
  have hlt' : b < B := Nat.lt_of_lt_of_le hlt hB
  exact ⟨(hb.cell (p := ⟨b, _, none⟩) hlt').trans h1, (hb.cell (p := ⟨b, _, none⟩) hlt').trans h2, (hb.cell (p := ⟨b, _, none⟩) hlt').trans h3, h4⟩

set_option maxHeartbeats 2000000 in
theorem bytes_22 (a : Option Addr) (n c : Nat) (L C : Nat → Int) (M : Nat → ByteArray) (w : World) (r : Fl a n L C M w) : Calls Try.prog 22 #[.slice a n c] w fun e w' => SomeBool e ∧ w' = w := by
  by_cases hn : n ≤ 1048576
  · have hn' : (n : Int) ≤ 1048576 := by omega
    go_enter Try.func22, Try.ntmps22
    go_wp2
    go_loop [3, 4] (fun z i => ∃ (k : Nat) (s : Int), k ≤ n ∧ z = .int .i64 s ∧ i = .int .i64 k) (fun _ i => n - (intOf i).toNat)
    case atStart => exact ⟨0, _, by omega, rfl, rfl⟩
    case round =>
      obtain ⟨k, s, hk, rfl, rfl⟩ := hrel
      by_cases hlt : k < n
      · have hlt' : (k : Int) < (n : Int) := by omega
        obtain ⟨b, o, rfl, hc⟩ := r (by omega)
        obtain ⟨h1, h2, h3, h4⟩ := hc k hlt
        clear hc
        go_wp2
        all_goals first
          | (go_ret; exact ⟨⟨_, rfl⟩, rfl⟩)
          | (refine ⟨⟨k + 1, _, by omega, rfl, by go_num⟩, ?_⟩
             simp [intOf]; omega)
      · have hkn : k = n := by omega
        subst hkn
        go_wp2
        go_ret
        exact ⟨⟨_, rfl⟩, rfl⟩
  · have hn' : (1048576 : Int) < n := by omega
    go_enter Try.func22, Try.ntmps22
    go_wp2
    go_ret
    exact ⟨⟨_, rfl⟩, rfl⟩

set_option maxHeartbeats 2000000 in
theorem fault_23 (a : Option Addr) (n c : Nat) (L C : Nat → Int) (M : Nat → ByteArray) (w : World) (hn : n ≤ 1048576) (r : Fl a n L C M w) : Calls Try.prog 23 #[.slice a n c] w fun e w' => SomeInt e ∧ w' = w := by
  go_enter Try.func23, Try.ntmps23
  go_wp2
  go_loop [3, 4] (fun z i => ∃ (k : Nat) (s : Int), k ≤ n ∧ z = .int .i64 s ∧ i = .int .i64 k) (fun _ i => n - (intOf i).toNat)
  case atStart => exact ⟨0, _, by omega, rfl, rfl⟩
  case round =>
    obtain ⟨k, s, hk, rfl, rfl⟩ := hrel
    by_cases hlt : k < n
    · have hlt' : (k : Int) < (n : Int) := by omega
      obtain ⟨b, o, rfl, hc⟩ := r (by omega)
      obtain ⟨h1, h2, h3, h4⟩ := hc k hlt
      clear hc
      go_wp2
      all_goals first
        | (go_ret; exact ⟨⟨_, rfl⟩, rfl⟩)
        | (refine ⟨⟨k + 1, _, by omega, rfl, by go_num⟩, ?_⟩
           simp [intOf]; omega)
    · have hkn : k = n := by omega
      subst hkn
      go_wp2
      go_ret
      exact ⟨⟨_, rfl⟩, rfl⟩
end Go.Proofs.Qxb6608988a
