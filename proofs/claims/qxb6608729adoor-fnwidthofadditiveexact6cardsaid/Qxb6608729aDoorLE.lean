/-
  The walk of zzLE16.
-/
import Derived.Test.Qxb6608729aDoorSix
import Derived.Test.Qxb6608729aDoorPlain
import Derived.LoopTactic
namespace Go.Proofs.Qxb6608729aDoor
set_option linter.unusedSimpArgs false
set_option linter.unusedVariables false
open Go.RowKit Go.Stop

/-- Sixteen cells that hold x's bytes. -/
def Row16 (x : Nat → Int) (b : Nat) (w : World) : Prop := ∀ k, k < 16 → w.cell? ⟨b, k, none⟩ = some (.int .u8 (x k))
theorem Row16.below {x : Nat → Int} {b : Nat} {W w1 : World} (h : Row16 x b W) (hb : Below W.heap.size W w1) : Row16 x b w1 := fun k hk =>
  (hb.cell (p := ⟨b, k, none⟩) (lt_of_cell (h k hk))).trans (h k hk)
theorem Row16.drewN {x : Nat → Int} {b : Nat} {W : World} (h : Row16 x b W) (n : Nat) : Row16 x b (W.drewN n) := fun k hk => h k hk

set_option maxHeartbeats 1000000 in
theorem le16_opaque (la lb : List Value) (a b : Nat → Int) (w : World) (ha : ∀ i, Byte (a i)) (hb : ∀ i, Byte (b i)) (xa : ∀ k, k < 16 → la[k]? = some (.int .u8 (a k))) (xb : ∀ k, k < 16 → lb[k]? = some (.int .u8 (b k))) :
    Calls Tryd.prog 19 #[.agg la.toArray, .agg lb.toArray] w fun e w' => e = .returned (.bool (leB a b)) ∧ Below w.heap.size w w' := by
  have cA : Row16 a w.heap.size ((w.alloc (.cells la.toArray 37)).alloc (.cells lb.toArray 37)) := fun k hk =>
    (cell_of_row _ _ k _ _ _ (heap_alloc2_old w _ _)).trans (by simpa using xa k hk)
  have cB : Row16 b (w.heap.size + 1) ((w.alloc (.cells la.toArray 37)).alloc (.cells lb.toArray 37)) := fun k hk =>
    (cell_of_row _ _ k _ _ _ (heap_alloc2_new w _ _)).trans (by simpa using xb k hk)
  have g0 : Below w.heap.size w ((w.alloc (.cells la.toArray 37)).alloc (.cells lb.toArray 37)) := by go_grown
  go_enter Tryd.func19, Tryd.ntmps19
  go_wp2
  go_loopw [5] (fun i wr => ∃ k : Nat, k ≤ 16 ∧ i = .int .i64 k ∧ Hid (seg a 0 k = seg b 0 k) ∧ Row16 a w.heap.size wr ∧ Row16 b (w.heap.size + 1) wr ∧ Below w.heap.size w wr) (fun i _ => 16 - (intOf i).toNat)
  case atStart => exact ⟨0, by omega, rfl, rfl, cA, cB, g0⟩
  case round =>
    obtain ⟨k, hk, rfl, hs, rA, rB, hbl⟩ := hrel
    clear cA cB g0 xa xb
    by_cases hlt : k < 16
    · have vA := rA k hlt
      have vB := rB k hlt
      have hlt' : (k : Int) < 16 := by omega
      by_cases he : a k = b k
      · have he' : (a k != b k) = false := by simp [he]
        go_wp2
        go_quiet (fail)
        go_wp2
        go_roundw
        case rel => exact ⟨k + 1, by omega, by go_num, (by have := hs.out; show seg a 0 k * 256 + a (0 + k) = seg b 0 k * 256 + b (0 + k); rw [Nat.zero_add]; omega), rA.drewN _, rB.drewN _, below_dN hbl⟩
        case measure => simp [intOf]; omega
      · have he' : (a k != b k) = true := by simp [he]
        go_wp2
        go_quiet (fail)
        go_wp2
        go_quiet (fail)
        go_wp2
        go_ret
        exact ⟨by rw [leB_hit a b ha hb k hlt hs.out he]; rfl, below_dN (below_dN hbl)⟩
    · have hk16 : k = 16 := by omega
      subst hk16
      go_wp2
      go_ret
      exact ⟨by rw [leB_eq a b hs.out]; rfl, hbl⟩

theorem row16_list (x : Nat → Int) (k : Nat) (hk : k < 16) : ([.int .u8 (x 0), .int .u8 (x 1), .int .u8 (x 2), .int .u8 (x 3), .int .u8 (x 4), .int .u8 (x 5), .int .u8 (x 6), .int .u8 (x 7), .int .u8 (x 8), .int .u8 (x 9), .int .u8 (x 10), .int .u8 (x 11), .int .u8 (x 12), .int .u8 (x 13), .int .u8 (x 14), .int .u8 (x 15)] : List Value)[k]? = some (.int .u8 (x k)) := by
  rcases (by omega : k = 0 ∨ k = 1 ∨ k = 2 ∨ k = 3 ∨ k = 4 ∨ k = 5 ∨ k = 6 ∨ k = 7 ∨ k = 8 ∨ k = 9 ∨ k = 10 ∨ k = 11 ∨ k = 12 ∨ k = 13 ∨ k = 14 ∨ k = 15) with h | h | h | h | h | h | h | h | h | h | h | h | h | h | h | h <;> subst h <;> rfl
theorem le16_any (a b : Nat → Int) (w : World) (ha : ∀ i, Byte (a i)) (hb : ∀ i, Byte (b i)) :
    Calls Tryd.prog 19 #[.agg #[.int .u8 (a 0), .int .u8 (a 1), .int .u8 (a 2), .int .u8 (a 3), .int .u8 (a 4), .int .u8 (a 5), .int .u8 (a 6), .int .u8 (a 7), .int .u8 (a 8), .int .u8 (a 9), .int .u8 (a 10), .int .u8 (a 11), .int .u8 (a 12), .int .u8 (a 13), .int .u8 (a 14), .int .u8 (a 15)], .agg #[.int .u8 (b 0), .int .u8 (b 1), .int .u8 (b 2), .int .u8 (b 3), .int .u8 (b 4), .int .u8 (b 5), .int .u8 (b 6), .int .u8 (b 7), .int .u8 (b 8), .int .u8 (b 9), .int .u8 (b 10), .int .u8 (b 11), .int .u8 (b 12), .int .u8 (b 13), .int .u8 (b 14), .int .u8 (b 15)]] w fun e w' => e = .returned (.bool (leB a b)) ∧ Below w.heap.size w w' :=
  le16_opaque [.int .u8 (a 0), .int .u8 (a 1), .int .u8 (a 2), .int .u8 (a 3), .int .u8 (a 4), .int .u8 (a 5), .int .u8 (a 6), .int .u8 (a 7), .int .u8 (a 8), .int .u8 (a 9), .int .u8 (a 10), .int .u8 (a 11), .int .u8 (a 12), .int .u8 (a 13), .int .u8 (a 14), .int .u8 (a 15)] [.int .u8 (b 0), .int .u8 (b 1), .int .u8 (b 2), .int .u8 (b 3), .int .u8 (b 4), .int .u8 (b 5), .int .u8 (b 6), .int .u8 (b 7), .int .u8 (b 8), .int .u8 (b 9), .int .u8 (b 10), .int .u8 (b 11), .int .u8 (b 12), .int .u8 (b 13), .int .u8 (b 14), .int .u8 (b 15)] a b w ha hb (row16_list a) (row16_list b)
end Go.Proofs.Qxb6608729aDoor
