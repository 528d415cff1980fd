/-
  The small callees: the kinds that take an item; no digit and no minus; the bound on the lengths.
-/
import Derived.Test.Qxb6609101aDoorShelf
import Derived.WalkKit
import Derived.WalkSpells
import Derived.WalkLawsBesides
import Derived.Deep.QuietTactic
import Derived.BigQuiet
import Derived.Deep.Draws
import Derived.Handy
import Derived.LoopTactic
import Derived.Deep.RegionWith
import Derived.Deep.RegionLawGrows
import Derived.Deep.RegionHeldLaw
import Derived.Lib.AppendStr
import Derived.Laws.BytesString
namespace Go.Proofs.Qxb6609101aDoor
set_option linter.unusedSimpArgs false
set_option linter.unusedVariables false
open Go.RowKit

/-- The kinds that take an item. -/
def hasItem (k : ByteArray) : Bool := k.toList == [114] || k.toList == [119] || k.toList == [105] || k.toList == [108] || k.toList == [115, 108] || k.toList == [120, 108] || k.toList == [117, 108] || k.toList == [117]

set_option maxHeartbeats 2000000 in
theorem hasItem_17 (k : ByteArray) (w : World) : Calls Tryd.prog 17 #[.string k] w fun e w' => e = .returned (.bool (hasItem k)) ∧ w' = w := by
  go_enter Tryd.func17, Tryd.ntmps17
  go_wp2
  all_goals first
    | (exfalso; simp_all; done)
    | (go_ret; exact ⟨by simp [hasItem, *], rfl⟩)

set_option maxHeartbeats 2000000 in
theorem takesItem_12 (k : ByteArray) (w : World) : Calls Tryd.prog 12 #[.string k] w fun e w' => e = .returned (.bool (hasItem k)) ∧ w' = w := by
  go_enter Tryd.func12, Tryd.ntmps12
  go_wp2
  all_goals first
    | (exfalso; simp_all; done)
    | (go_ret; exact ⟨by simp [hasItem, *], rfl⟩)

/-- A byte that the numeral has: a digit or the minus. -/
def isNum (b : UInt8) : Bool := (decide (48 ≤ b.toNat) && decide (b.toNat ≤ 57)) || b.toNat == 45

/-- No byte of the numeral's. -/
def noNum (k : ByteArray) : Bool := k.toList.all fun b => !isNum b

theorem noNum_false {k : ByteArray} {j : Nat} (hj : j < k.size) (h : isNum k[j] = true) : noNum k = false := by
  unfold noNum
  rw [Bool.eq_false_iff]
  intro h2
  rw [List.all_eq_true] at h2
  have := h2 k[j] (by
    rw [ByteArray.toList_eq]
    exact Array.getElem_mem_toList (xs := k.data) (i := j) hj)
  simp [h] at this
theorem noNum_true {k : ByteArray} (h : ∀ m (hm : m < k.size), isNum k[m] = false) : noNum k = true := by
  unfold noNum
  rw [List.all_eq_true]
  intro b hb
  rw [ByteArray.toList_eq] at hb
  obtain ⟨m, hm, e⟩ := Array.getElem_of_mem (Array.mem_toList_iff.1 hb)
  have := h m hm
  rw [show k[m] = b from e] at this
  simp [this]

set_option maxHeartbeats 2000000 in
theorem noNum_15 (k : ByteArray) (hk : k.size ≤ 1048576) (w : World) : Calls Tryd.prog 15 #[.string k] w fun e w' => e = .returned (.bool (noNum k)) ∧ w' = w := by
  go_enter Tryd.func15, Tryd.ntmps15
  go_wp2
  go_loop [3] (fun i => ∃ j : Nat, j ≤ k.size ∧ i = .int .i64 j ∧ ∀ m (hm : m < k.size), m < j → isNum k[m] = false) (fun i => k.size - (intOf i).toNat)
  case atStart => exact ⟨0, by omega, rfl, fun m _ hm => by omega⟩
  case round =>
    obtain ⟨j, hj, rfl, hA⟩ := hrel
    by_cases hlt : j < k.size
    · have hlt' : (j : Int) < (k.size : Int) := by omega
      have step : isNum k[j] = false → ∀ m (hm : m < k.size), m < j + 1 → isNum k[m] = false := fun h m hm hm2 => by
        by_cases e : m = j
        · subst e; exact h
        · exact hA m hm (by omega)
      by_cases c1 : k[j].toNat < 48
      · by_cases c2 : k[j].toNat = 45
        · have hN : noNum k = false := noNum_false hlt (by unfold isNum; simp [c2])
          have d1 : (k[j].toNat : Int) < 48 := by omega
          have d2 : ((k[j].toNat : Int) == 45) = true := by rw [c2]; rfl
          go_wp2
          go_ret
          exact ⟨by first | rfl | (rw [hN]; rfl), rfl⟩
        · have hN : isNum k[j] = false := by unfold isNum; simp [c2]; omega
          have hS := step hN
          have d1 : (k[j].toNat : Int) < 48 := by omega
          have d2 : ((k[j].toNat : Int) == 45) = false := by rw [beq_eq_false_iff_ne]; omega
          go_wp2
          go_round
          case rel => exact ⟨j + 1, by omega, by go_num, hS⟩
          case measure => simp [intOf]; omega
      · have d1 : (48 : Int) ≤ (k[j].toNat : Int) := by omega
        by_cases c2 : k[j].toNat ≤ 57
        · have hN : noNum k = false := noNum_false hlt (by unfold isNum; simp [c2]; omega)
          have d2 : (k[j].toNat : Int) ≤ 57 := by omega
          go_wp2
          go_ret
          exact ⟨by first | rfl | (rw [hN]; rfl), rfl⟩
        · have hN : isNum k[j] = false := by unfold isNum; simp; omega
          have hS := step hN
          have d2 : (57 : Int) < (k[j].toNat : Int) := by omega
          have d3 : ((k[j].toNat : Int) == 45) = false := by rw [beq_eq_false_iff_ne]; omega
          go_wp2
          go_round
          case rel => exact ⟨j + 1, by omega, by go_num, hS⟩
          case measure => simp [intOf]; omega
    · have hkn : j = k.size := by omega
      subst hkn
      have hN := noNum_true (fun m hm => hA m hm hm)
      go_wp2
      go_ret
      exact ⟨by first | rfl | (rw [hN]; rfl), rfl⟩

set_option maxHeartbeats 2000000 in
/-- The bound: its answer is some bool. -/
theorem zzBytes_14 (k1 i1 k2 i2 : ByteArray) (t1 l1 c1 t2 l2 c2 : Int) (w : World) :
    Calls Tryd.prog 14 #[.string k1, .int .i64 t1, .string i1, .int .i64 l1, .int .i64 c1, .string k2, .int .i64 t2, .string i2, .int .i64 l2, .int .i64 c2] w fun e w' => (∃ b, e = .returned (.bool b)) ∧ w' = w := by
  go_enter Tryd.func14, Tryd.ntmps14
  go_wp2
  all_goals (go_ret; exact ⟨⟨_, rfl⟩, rfl⟩)
end Go.Proofs.Qxb6609101aDoor
