/-
  Walks over the project's range.go: the difference of two numbers of two words.
-/
import Derived.Test.Qxb6608729aDoorNum
import Derived.Shelf.Spec.BitsCarry
namespace Go.Proofs.Qxb6608729aDoor
set_option linter.unusedSimpArgs false
set_option linter.unusedVariables false
open Go.RowKit Go.Stop

theorem sub64 (x y b : Int) (hx : 0 ≤ x) (hy : 0 ≤ y) (hy' : y < 18446744073709551616) (hb0 : 0 ≤ b) (hb : b ≤ 1) (w : World) : (callFunc 60 #[.int .u64 x, .int .u64 y, .int .u64 b]).run Tryd.prog w =
    .ok (.value (.tuple #[.int .u64 ((x - y - b) % 18446744073709551616), .int .u64 (if x < y + b then 1 else 0)])) w := by
  obtain ⟨x, rfl⟩ := Int.eq_ofNat_of_zero_le hx
  obtain ⟨y, rfl⟩ := Int.eq_ofNat_of_zero_le hy
  obtain ⟨b, rfl⟩ := Int.eq_ofNat_of_zero_le hb0
  have e1 : (((x + 18446744073709551616 - y - b) % 18446744073709551616 : Nat) : Int) = ((x : Int) - y - b) % 18446744073709551616 := by omega
  have e2 : ((if x < y + b then 1 else 0 : Nat) : Int) = if (x : Int) < y + b then 1 else 0 := by split <;> split <;> omega
  rw [← e1, ← e2]
  rw [run_callFunc_extern Tryd.func60 (by kernel_rfl) (by kernel_rfl) (by kernel_rfl) (e := sub64Entry) (by kernel_rfl), run_sub64 x y b (by omega)]
  rfl
/-- The borrow. -/
def bor (x y : Int) : Int := if x < y then 1 else 0
theorem bor_01 (x y : Int) : 0 ≤ bor x y ∧ bor x y ≤ 1 := by unfold bor; split <;> omega
/-- The two words of the difference. -/
def dlo (xl yl : Int) : Int := (xl - yl) % 18446744073709551616
def dhi (xh xl yh yl : Int) : Int := (xh - yh - bor xl yl) % 18446744073709551616
theorem sub64_lo (x y : Int) (hx : 0 ≤ x) (hy : 0 ≤ y) (hy' : y < 18446744073709551616) (w : World) : (callFunc 60 #[.int .u64 x, .int .u64 y, .int .u64 0]).run Tryd.prog w =
    .ok (.value (.tuple #[.int .u64 (dlo x y), .int .u64 (bor x y)])) w := by
  unfold dlo bor
  simpa using sub64 x y 0 hx hy hy' (Int.le_refl 0) (by decide) w
def bor2 (x y b : Int) : Int := if x < y + b then 1 else 0
theorem sub64_hi (x y a b : Int) (hx : 0 ≤ x) (hy : 0 ≤ y) (hy' : y < 18446744073709551616) (w : World) : (callFunc 60 #[.int .u64 x, .int .u64 y, .int .u64 (bor a b)]).run Tryd.prog w =
    .ok (.value (.tuple #[.int .u64 (dhi x a y b), .int .u64 (bor2 x y (bor a b))])) w := by
  unfold dhi bor2
  exact sub64 x y (bor a b) hx hy hy' (bor_01 a b).1 (bor_01 a b).2 w

set_option maxHeartbeats 1000000 in
theorem minus_any (xh xl yh yl : Int) (w : World) (a1 : 0 ≤ xh) (b1 : 0 ≤ xl) (c1 : 0 ≤ yh) (c2 : yh < 18446744073709551616) (d1 : 0 ≤ yl) (d2 : yl < 18446744073709551616) :
    Calls Tryd.prog 40 #[.agg #[.int .u64 xh, .int .u64 xl], .agg #[.int .u64 yh, .int .u64 yl]] w fun e w' =>
      e = .returned (.agg #[.int .u64 (dhi xh xl yh yl), .int .u64 (dlo xl yl)]) ∧ Below w.heap.size w w' := by
  go_enter Tryd.func40, Tryd.ntmps40
  go_wp2_with (first | simp only [sub64_lo xl yl b1 d1 d2] | simp only [sub64_hi xh yh xl yl a1 c1 c2])
  refine bodyPost_ret (v := .agg #[.int .u64 (dhi xh xl yh yl), .int .u64 (dlo xl yl)]) (by simp [results, Tryd.results40, go_sem]) rfl ⟨rfl, ?_⟩
  go_grown

theorem Zs.drew {p4 p6 : Addr} {w : World} (z : Zs p4 p6 w) : Zs p4 p6 w.drew := z.below ((Below.refl _ _).drew)
/-- What a word is. -/
def Word (x : Int) : Prop := 0 ≤ x ∧ x < 18446744073709551616

set_option maxHeartbeats 1000000 in
theorem widthOf_six (xh xl yh yl : Int) (p4 p6 : Addr) (w : World) (z : Zs p4 p6 w) (x1 : Word xh) (x2 : Word xl) (y1 : Word yh) (y2 : Word yl) :
    Calls Tryd.prog 27 #[.agg #[.int .u64 xh, .int .u64 xl, .pointer (some p6)], .agg #[.int .u64 yh, .int .u64 yl, .pointer (some p6)]] w fun e w' =>
      e = .returned (.agg #[.int .u64 (dhi yh yl xh xl), .int .u64 (dlo yl xl)]) ∧ Below w.heap.size w w' := by
  go_enter Tryd.func27, Tryd.ntmps27
  go_wp2
  go_region_with (first
    | (go_at_call_of 39 yh; refine (numberOf_six yh yl p4 p6 _ ?_ y1.1 y1.2 y2.1 y2.2).mono ?_; exact (((z.alloc _).alloc _).alloc _).drew; rintro e w1 ⟨rfl, hb1⟩; obtain ⟨hc1, hf1⟩ := bcell hb1; have hz1 : w.heap.size + 1 + 1 < w1.heap.size := by (have := hb1.size; simp at this; omega))
    | (go_at_call_of 39 xh; refine (numberOf_six xh xl p4 p6 _ ?_ x1.1 x1.2 x2.1 x2.2).mono ?_; exact ((((z.alloc _).alloc _).alloc _).drew).below hb1; rintro e w2 ⟨rfl, hb2⟩; obtain ⟨hc2, hf2⟩ := bcell hb2; have hz2 : w.heap.size + 1 + 1 < w2.heap.size := by (have := hb2.size; omega))
    | (go_at_call 40; refine (minus_any yh yl xh xl _ y1.1 y2.1 x1.1 x1.2 x2.1 x2.2).mono ?_; rintro e w3 ⟨rfl, hb3⟩; obtain ⟨hc3, hf3⟩ := bcell hb3))
  all_goals
    go_wp2
    refine bodyPost_ret (v := .agg #[.int .u64 (dhi yh yl xh xl), .int .u64 (dlo yl xl)]) (by simp [results, Tryd.results27, go_sem, hc1, hc2, hc3, hz1, hz2]) rfl ⟨rfl, ?_⟩
    have g1 := hb1.mono (B' := w.heap.size) (by simp; omega)
    refine (((Below.trans ?_ g1).trans ((hb2.mono (by omega)).trans (hb3.mono (by omega)))).setCell (by simp; omega) _).setCell (by simp; omega) _
    go_grown
end Go.Proofs.Qxb6608729aDoor
