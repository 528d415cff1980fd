/-
  Walks over the project's range.go: an address as a number.
-/
import Derived.Test.Qxb6608729aDoorZ
import Derived.Deep.RegionWith
import Derived.Handy
namespace Go.Proofs.Qxb6608729aDoor
set_option linter.unusedSimpArgs false
set_option linter.unusedVariables false
open Go.RowKit Go.Stop

theorem below_dN {B : Nat} {a w : World} {n : Nat} (h : Below B a w) : Below B a (w.drewN n) := ⟨h.os, h.tape, h.output, h.size, h.block⟩

set_option maxHeartbeats 1000000 in
theorem number6_any (hi lo : Int) (p4 p6 : Addr) (w : World) (z : Zs p4 p6 w) (h0 : 0 ≤ hi) (h1 : hi < 18446744073709551616) (l0 : 0 ≤ lo) (l1 : lo < 18446744073709551616) :
    Calls Tryd.prog 59 #[.agg #[.int .u64 hi, .int .u64 lo, .pointer (some p6)]] w fun e w' => e = .returned (.agg #[.int .u64 hi, .int .u64 lo]) ∧ Below w.heap.size w w' := by
  have b0 := w0_byte hi h0 h1
  have b1 := w1_byte hi
  have b2 := w2_byte hi
  have b3 := w3_byte hi
  have b4 := w4_byte hi
  have b5 := w5_byte hi
  have b6 := w6_byte hi
  have b7 := w7_byte hi
  have a0 := w0_byte lo l0 l1
  have a1 := w1_byte lo
  have a2 := w2_byte lo
  have a3 := w3_byte lo
  have a4 := w4_byte lo
  have a5 := w5_byte lo
  have a6 := w6_byte lo
  have a7 := w7_byte lo
  go_enter Tryd.func59, Tryd.ntmps59
  go_wp2_with (go_at_call 72; refine (asSlice_six hi lo p4 p6 _ ((z.alloc _).alloc _) h0 h1 l0 l1).mono ?_; rintro e w' ⟨rfl, rfl⟩)
  go_region_with (first
    | (go_at_call 73; with_reducible refine (uint64_any (w.heap.size + 1 + 1 + 1) 0 8 16 (w0 hi) (w1 hi) (w2 hi) (w3 hi) (w4 hi) (w5 hi) (w6 hi) (w7 hi) _ (by omega) b0 b1 b2 b3 b4 b5 b6 b7 (by simp [go_sem]) (by simp [go_sem]) (by simp [go_sem]) (by simp [go_sem]) (by simp [go_sem]) (by simp [go_sem]) (by simp [go_sem]) (by simp [go_sem]) ).mono ?_; rintro e w' ⟨he, k, rfl⟩; rw [be8_w] at he; subst he)
    | (go_at_call 73; with_reducible refine (uint64_any (w.heap.size + 1 + 1 + 1) 8 8 8 (w0 lo) (w1 lo) (w2 lo) (w3 lo) (w4 lo) (w5 lo) (w6 lo) (w7 lo) _ (by omega) a0 a1 a2 a3 a4 a5 a6 a7 (by simp [go_sem]) (by simp [go_sem]) (by simp [go_sem]) (by simp [go_sem]) (by simp [go_sem]) (by simp [go_sem]) (by simp [go_sem]) (by simp [go_sem]) ).mono ?_; rintro e w' ⟨he, k, rfl⟩; rw [be8_w] at he; subst he))
  all_goals
    go_wp2
    refine bodyPost_ret (v := .agg #[.int .u64 hi, .int .u64 lo]) (by simp [results, Tryd.results59, go_sem]) rfl ⟨rfl, ?_⟩
    (repeat' (first | (with_reducible exact Below.refl _ _) | (with_reducible refine Below.alloc ?_ ?_ _) | (with_reducible refine Below.drew ?_) | (with_reducible refine below_dN ?_) | (with_reducible refine Below.setCell ?_ ?_ _) | go_size))

theorem bcell {W w1 : World} (hb : Below W.heap.size W w1) : (∀ b o, b < W.heap.size → w1.cell? ⟨b, o, none⟩ = W.cell? ⟨b, o, none⟩) ∧ (∀ b o, b < W.heap.size → w1.frozen? ⟨b, o, none⟩ = W.frozen? ⟨b, o, none⟩) :=
  ⟨fun b o h => hb.cell (p := ⟨b, o, none⟩) h, fun b o h => hb.frozen (p := ⟨b, o, none⟩) h⟩

set_option maxHeartbeats 1000000 in
theorem numberOf_six (hi lo : Int) (p4 p6 : Addr) (w : World) (z : Zs p4 p6 w) (h0 : 0 ≤ hi) (h1 : hi < 18446744073709551616) (l0 : 0 ≤ lo) (l1 : lo < 18446744073709551616) :
    Calls Tryd.prog 39 #[.agg #[.int .u64 hi, .int .u64 lo, .pointer (some p6)]] w fun e w' => e = .returned (.agg #[.int .u64 hi, .int .u64 lo]) ∧ Below w.heap.size w w' := by
  go_enter Tryd.func39, Tryd.ntmps39
  go_wp2_with (first
    | (go_at_call 57; refine (is4_six hi lo p4 p6 _ ((z.alloc _).alloc _)).mono ?_; rintro e w' ⟨rfl, rfl⟩)
    | (go_at_call 59; refine (number6_any hi lo p4 p6 _ (((z.alloc _).alloc _).alloc _) h0 h1 l0 l1).mono ?_; rintro e w1 ⟨rfl, hb⟩; obtain ⟨hc, hf⟩ := bcell hb))
  refine bodyPost_ret (v := .agg #[.int .u64 hi, .int .u64 lo]) (by simp [results, Tryd.results39, go_sem, hc]) rfl ⟨rfl, ?_⟩
  refine ((Below.trans ?_ (hb.mono (by simp; omega))).setCell (by simp) _).setCell (by simp) _
  go_grown

end Go.Proofs.Qxb6608729aDoor
