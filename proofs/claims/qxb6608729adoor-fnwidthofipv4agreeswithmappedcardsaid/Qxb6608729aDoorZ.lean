/-
  Walks over net/netip's handles: which family an address is of.
-/
import Derived.Test.Qxb6608729aDoorBytes
import Derived.LaidEqlPtr
import Derived.Laws.StructEq
import Derived.Deep.RegionHeld3
namespace Go.Proofs.Qxb6608729aDoor
set_option linter.unusedSimpArgs false
set_option linter.unusedVariables false
open Go.RowKit Go.Stop

/-- What the listed variables hold, as the walks want it: two handles that part, and none. -/
structure Zs (p4 p6 : Addr) (w : World) : Prop where
  c6 : w.cell? ⟨0, 0, none⟩ = some (.pointer (some p6))
  c4 : w.cell? ⟨1, 0, none⟩ = some (.pointer (some p4))
  c0 : w.cell? ⟨8, 0, none⟩ = some (.pointer none)
  ne : p6 ≠ p4
  h4 : ∃ c t, w.heap[p4.block]? = some (.cells c t (0, 0))
  h6 : ∃ c t, w.heap[p6.block]? = some (.cells c t (0, 0))

theorem lt_of_cell {w : World} {a : Addr} {v : Value} (h : w.cell? a = some v) : a.block < w.heap.size := by
  rcases Nat.lt_or_ge a.block w.heap.size with h' | h'
  · exact h'
  · simp [World.cell?, Array.getElem?_eq_none h'] at h
theorem lt_of_heap {w : World} {b : Nat} {o : Obj} (h : w.heap[b]? = some o) : b < w.heap.size := by
  rcases Nat.lt_or_ge b w.heap.size with h' | h'
  · exact h'
  · simp [Array.getElem?_eq_none h'] at h

theorem Zs.below {p4 p6 : Addr} {w w' : World} (z : Zs p4 p6 w) (h : Below w.heap.size w w') : Zs p4 p6 w' where
  c6 := (h.cell (p := ⟨0, 0, none⟩) (lt_of_cell z.c6)).trans z.c6
  c4 := (h.cell (p := ⟨1, 0, none⟩) (lt_of_cell z.c4)).trans z.c4
  c0 := (h.cell (p := ⟨8, 0, none⟩) (lt_of_cell z.c0)).trans z.c0
  ne := z.ne
  h4 := by obtain ⟨c, t, e⟩ := z.h4; exact ⟨c, t, (h.block _ (lt_of_heap e)).trans e⟩
  h6 := by obtain ⟨c, t, e⟩ := z.h6; exact ⟨c, t, (h.block _ (lt_of_heap e)).trans e⟩
theorem Zs.alloc {p4 p6 : Addr} {w : World} (z : Zs p4 p6 w) (o : Obj) : Zs p4 p6 (w.alloc o) := z.below ((Below.refl _ _).alloc (Nat.le_refl _) _)

theorem Tryd.pte66 : Tryd.prog.underlying 66 = some (.pointer (Tryd.prog.pointee 66)) := by kernel_rfl
theorem Tryd.size66 : (Tryd.prog.info? (Tryd.prog.pointee 66)).map (·.size) = some 2 := by kernel_rfl

theorem eq66_other {p4 p6 : Addr} {w : World} (z : Zs p4 p6 w) (d : Nat) : (Op.equalIn (d + 1) 66 (.pointer (some p6)) (.pointer (some p4))).run Tryd.prog w = .ok false w := by
  obtain ⟨j, hj, hs⟩ := Option.map_eq_some_iff.1 Tryd.size66
  obtain ⟨c4, t4, e4⟩ := z.h4
  obtain ⟨c6, t6, e6⟩ := z.h6
  simp [Op.equalIn, run_underlying Tryd.pte66, sizeOf, typeInfo, hj, hs, run_sameAddr_other w z.ne e6 e4]
theorem eq66_same (p : Addr) (w : World) (d : Nat) : (Op.equalIn (d + 1) 66 (.pointer (some p)) (.pointer (some p))).run Tryd.prog w = .ok true w := by
  obtain ⟨j, hj, hs⟩ := Option.map_eq_some_iff.1 Tryd.size66
  simp [Op.equalIn, run_underlying Tryd.pte66, sizeOf, typeInfo, hj, run_sameAddr_same]
theorem eq66_nil (p : Addr) (w : World) (d : Nat) : (Op.equalIn (d + 1) 66 (.pointer (some p)) (.pointer none)).run Tryd.prog w = .ok false w := by
  simpa using run_equalIn_pointer_nil (P := Tryd.prog) w d 66 (some p) Tryd.pte66

theorem is4_six (hi lo : Int) (p4 p6 : Addr) (w : World) (z : Zs p4 p6 w) :
    Calls Tryd.prog 57 #[.agg #[.int .u64 hi, .int .u64 lo, .pointer (some p6)]] w fun e w' => e = .returned (.bool false) ∧ w' = w.alloc (.cells #[.int .u64 hi, .int .u64 lo, .pointer (some p6)] 70) := by
  have z1 := fun o => (z.alloc o).c4
  have z2 := fun o => eq66_other (z.alloc o) 9998
  go_enter Tryd.func57, Tryd.ntmps57
  go_wp2
  go_ret
  exact ⟨rfl, rfl⟩
theorem is4_four (hi lo : Int) (p4 p6 : Addr) (w : World) (z : Zs p4 p6 w) :
    Calls Tryd.prog 57 #[.agg #[.int .u64 hi, .int .u64 lo, .pointer (some p4)]] w fun e w' => e = .returned (.bool true) ∧ w' = w.alloc (.cells #[.int .u64 hi, .int .u64 lo, .pointer (some p4)] 70) := by
  have z1 := fun o => (z.alloc o).c4
  have z2 := fun w => eq66_same p4 w 9998
  go_enter Tryd.func57, Tryd.ntmps57
  go_wp2
  go_ret
  exact ⟨rfl, rfl⟩

set_option maxHeartbeats 1000000 in
theorem asSlice_six (hi lo : Int) (p4 p6 : Addr) (w : World) (z : Zs p4 p6 w) (h0 : 0 ≤ hi) (h1 : hi < 18446744073709551616) (l0 : 0 ≤ lo) (l1 : lo < 18446744073709551616) :
    Calls Tryd.prog 72 #[.agg #[.int .u64 hi, .int .u64 lo, .pointer (some p6)]] w fun e w' => e = .returned (.slice (some ⟨w.heap.size + 1, 0, none⟩) 16 16) ∧
      w' = ((w.alloc (.cells #[.int .u64 hi, .int .u64 lo, .pointer (some p6)] 70)).alloc (.cells #[.int .u8 (w0 hi), .int .u8 (w1 hi), .int .u8 (w2 hi), .int .u8 (w3 hi), .int .u8 (w4 hi), .int .u8 (w5 hi), .int .u8 (w6 hi), .int .u8 (w7 hi),
        .int .u8 (w0 lo), .int .u8 (w1 lo), .int .u8 (w2 lo), .int .u8 (w3 lo), .int .u8 (w4 lo), .int .u8 (w5 lo), .int .u8 (w6 lo), .int .u8 (w7 lo)] 37)).drew.drew := by
  have z1 := fun o => (z.alloc o).c4
  have z0 := fun o => (z.alloc o).c0
  have z2 := fun o => eq66_other (z.alloc o) 9998
  have z3 := fun w => eq66_nil p6 w 9998
  go_enter Tryd.func72, Tryd.ntmps72
  go_wp2
  go_region_with (go_at_call 84; refine (put64_any (w.heap.size + 1) 0 8 16 hi h0 h1 (.int .u8 0) (.int .u8 0) (.int .u8 0) (.int .u8 0) (.int .u8 0) (.int .u8 0) (.int .u8 0) (.int .u8 0) _ (by omega) (by simp) (by simp) (by simp) (by simp) (by simp) (by simp) (by simp) (by simp) (by simp) (by simp) (by simp) (by simp) (by simp) (by simp) (by simp) (by simp) ).mono ?_; rintro e w' ⟨rfl, rfl⟩; simp only [put8])
  go_wp2
  go_region_with (go_at_call 84; refine (put64_any (w.heap.size + 1) 8 8 8 lo l0 l1 (.int .u8 0) (.int .u8 0) (.int .u8 0) (.int .u8 0) (.int .u8 0) (.int .u8 0) (.int .u8 0) (.int .u8 0) _ (by omega) (by simp) (by simp) (by simp) (by simp) (by simp) (by simp) (by simp) (by simp) (by simp) (by simp) (by simp) (by simp) (by simp) (by simp) (by simp) (by simp) ).mono ?_; rintro e w' ⟨rfl, rfl⟩; simp only [put8])
  go_wp2
  go_ret
  exact ⟨rfl, rfl⟩
end Go.Proofs.Qxb6608729aDoor
