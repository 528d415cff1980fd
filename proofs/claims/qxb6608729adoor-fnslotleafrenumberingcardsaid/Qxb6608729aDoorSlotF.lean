/-
  FnSlotLeafRenumbering: the law's walk at a leaf that several runs hold.
-/
import Derived.Test.Qxb6608729aDoorSlotE
namespace Go.Proofs.Qxb6608729aDoor
set_option linter.unusedSimpArgs false
set_option linter.unusedVariables false
open Go.RowKit Go.Stop

theorem zslot_zero (R : Nat) (d h K : Int) (w : World) (c1 : w.cell? ⟨R, 1, none⟩ = some (.bool false)) (h1 : 1 < d) (h2 : d ≤ 32768) (hK : kindOf d = K) :
    Calls Tryd.prog 18 #[.pointer (some ⟨R, 0, none⟩), .int .i64 0, .int .i64 d, .int .u64 h, .int .u64 0] w fun e w' => e = .returned (.int .u32 K) ∧ w' = w := by
  have := zslot_many R 0 d h w c1 (by omega) (by omega) h2
  rw [Int.sub_zero, hK, Int.add_zero] at this
  exact this
theorem zslot_at (R : Nat) (i j h K : Int) (w : World) (c1 : w.cell? ⟨R, 1, none⟩ = some (.bool false)) (h0 : 0 ≤ i) (h1 : i + 1 < j) (h2 : j ≤ 32768) (hK : kindOf (j - i) = K) :
    Calls Tryd.prog 18 #[.pointer (some ⟨R, 0, none⟩), .int .i64 i, .int .i64 j, .int .u64 h, .int .u64 0] w fun e w' => e = .returned (.int .u32 (K + i)) ∧ w' = w := by
  have := zslot_many R i j h w c1 h0 h1 h2
  rw [hK] at this
  exact this

set_option maxRecDepth 100000 in
set_option maxHeartbeats 4000000 in
theorem law5_scan (b1 o1 c1 b2 o2 c2 b3 o3 c3 n : Nat) (H L A : Nat → Int) (i j : Nat) (h : Int) (w : World) (hn : n ≤ 32768) (hs : bytesB n n n = true) (hi : i + 1 < j) (hj : j ≤ n) (hK : kindOf ((j : Int) - (i : Int)) = 1610612736)
    (x1 : Ints .u64 b1 o1 n H w) (x2 : Ints .u64 b2 o2 n L w) (x3 : Ints .u32 b3 o3 n A w) :
    Calls Tryd.prog 5 #[.slice (some ⟨b1, o1, none⟩) n c1, .slice (some ⟨b2, o2, none⟩) n c2, .slice (some ⟨b3, o3, none⟩) n c3, .bool false, .int .i64 i, .int .i64 j, .int .u64 h, .int .u64 0] w fun e w' =>
      e = .returned (.bool true) ∧ Below w.heap.size w w' := by
  have hby := fun w => bytes_any (some ⟨b1, o1, none⟩) (some ⟨b2, o2, none⟩) (some ⟨b3, o3, none⟩) n n n c1 c2 c3 false i j h 0 w (by omega) (by omega) (by omega)
  rw [hs] at hby
  have hdo := domain_many b1 o1 c1 b2 o2 c2 n c3 (some ⟨b3, o3, none⟩) H L i j h w hn hi hj x1 x2
  have q28 := fun w (a : Addr) n c => run_neq_slice_nil_any (P := Tryd.prog) w 28 30 (some a) n c 0 0 Tryd.underlying28
  have q29 := fun w (a : Addr) n c => run_neq_slice_nil_any (P := Tryd.prog) w 29 35 (some a) n c 0 0 Tryd.underlying29
  obtain ⟨Z1, z1, k1⟩ := make_u64 n hn
  obtain ⟨Z3, z3, k3⟩ := make_u32 n hn
  have HK : Hid (kindOf ((j : Int) - (i : Int)) = 1610612736) := hK
  clear hK
  have hw1 : IntKind.u32.wrap (i : Int) = (i : Int) := u32_wrap_id _ (by omega) (by omega)
  have hw2 : IntKind.u32.wrap (1610612736 + (i : Int)) = 1610612736 + (i : Int) := u32_wrap_id _ (by omega) (by omega)
  have hne : (((j : Int) - (i : Int)) == 1) = false := by simp; omega
  go_enter Tryd.func5, Tryd.ntmps5
  go_wp2_with (go_at_call 15; refine (hby _).mono ?_; rintro e w' ⟨rfl, hw⟩; obtain rfl := hw.symm; clear hw)
  refine hdo.mono ?_
  rintro e w1 ⟨r, kk, rfl, hkk⟩
  have B0 : Below w.heap.size w w1 := by rw [hkk]; exact ⟨rfl, rfl, rfl, Nat.le_refl _, fun _ _ => rfl⟩
  have X1 := x1.below B0
  have X2 := x2.below B0
  have X3 := x3.below B0
  clear hkk hdo
  cases r
  · go_wp2
    go_ret
    exact ⟨rfl, B0⟩
  · go_wp2_with (first
      | (refine wpList_copy_splice rfl (.tmp 62) (.tmp 63) 28 28 rfl 30 Tryd.underlying28 Tryd.isz30 _ _ _ _ _ _ rfl rfl w1.heap.size 0 Z1 30 (heap_alloc_new _ _) (row .u64 n H) (by rw [row_length]; exact (Nat.min_self n).symm) (fun _ => ⟨rfl, _, rfl, row_src (X1.below ((Below.refl _ _).alloc (Nat.le_refl _) _))⟩) (by rw [row_length, z1]; omega) (row_one _ _ _) w1.heap.size w1 ((Below.refl _ _).alloc (Nat.le_refl _) _) (Nat.le_refl _) ?_; intro w2 hg2 hb2)
      | (refine wpList_copy_splice rfl (.tmp 71) (.tmp 72) 28 28 rfl 30 Tryd.underlying28 Tryd.isz30 _ _ _ _ _ _ rfl rfl w2.heap.size 0 Z1 30 (heap_alloc_new _ _) (row .u64 n L) (by rw [row_length]; exact (Nat.min_self n).symm) (fun _ => ⟨rfl, _, rfl, row_src ((X2.below hb2).below ((Below.refl _ _).alloc (Nat.le_refl _) _))⟩) (by rw [row_length, z1]; omega) (row_one _ _ _) w2.heap.size w2 ((Below.refl _ _).alloc (Nat.le_refl _) _) (Nat.le_refl _) ?_; intro w3 hg3 hb3)
      | (refine wpList_copy_splice rfl (.tmp 80) (.tmp 81) 29 29 rfl 35 Tryd.underlying29 Tryd.isz35 _ _ _ _ _ _ rfl rfl w3.heap.size 0 Z3 35 (heap_alloc_new _ _) (row .u32 n A) (by rw [row_length]; exact (Nat.min_self n).symm) (fun _ => ⟨rfl, _, rfl, row_src (((X3.below hb2).below hb3).below ((Below.refl _ _).alloc (Nat.le_refl _) _))⟩) (by rw [row_length, z3]; omega) (row_one _ _ _) w3.heap.size w3 ((Below.refl _ _).alloc (Nat.le_refl _) _) (Nat.le_refl _) ?_; intro w4 hg4 hb4)
      | (go_at_call 17; refine (newIdx_any w1.heap.size 0 n w2.heap.size 0 n w3.heap.size 0 n n H L A false _ hn (((ints_of_row z1 hg2).below hb3).below hb4) ((ints_of_row z1 hg3).below hb4) (ints_of_row z3 hg4)).mono ?_; rintro e w5 ⟨R, B, rfl, r0, r1, rA, hb5⟩))
    have hni : ¬ n = i := by omega
    have hin : (i : Int) ≤ (n : Int) := by omega
    have I1 := (((ints_of_row z1 hg2).below hb3).below hb4).below hb5
    have I2 := ((ints_of_row z1 hg3).below hb4).below hb5
    have I3 := (ints_of_row z3 hg4).below hb5
    have G5 : Below w1.heap.size w1 w5 := hb2.trans ((hb3.mono hb2.size).trans ((hb4.mono (Nat.le_trans hb2.size hb3.size)).trans (hb5.mono (Nat.le_trans hb2.size (Nat.le_trans hb3.size hb4.size)))))
    go_region_with (go_at_call 17; refine (newIdx_any w1.heap.size i (n - i) w2.heap.size i (n - i) w3.heap.size i (n - i) (n - i) (fun m => H (i + m)) (fun m => L (i + m)) (fun m => A (i + m)) false _ (by omega) (ints_shift i I1) (ints_shift i I2) (ints_shift i I3)).mono ?_; rintro e w6 ⟨R2, B2, rfl, s0, s1, sA, hb6⟩)
    have hb7 : Below w5.heap.size w5 w6 := Below.trans (Below.drew (Below.refl _ w5)) hb6
    have t1 : w6.cell? ⟨R, 1, none⟩ = some (.bool false) := (hb7.cell (p := ⟨R, 1, none⟩) (blk_of_cell r1)).trans r1
    have G6 : Below w.heap.size w w6 := B0.trans ((G5.trans (hb7.mono G5.size)).mono B0.size)
    go_wp2_with (first
      | (go_at_call_of 18 R; refine (zslot_at R i j h 1610612736 _ t1 (by omega) (by omega) (by omega) HK.out).mono ?_; rintro e w' ⟨rfl, hw⟩; obtain rfl := hw.symm; clear hw)
      | (go_at_call_of 18 R2; refine (zslot_zero R2 ((j : Int) - (i : Int)) h 1610612736 _ s1 (by omega) (by omega) HK.out).mono ?_; rintro e w' ⟨rfl, hw⟩; obtain rfl := hw.symm; clear hw))
    go_ret
    exact ⟨rfl, G6⟩

set_option maxRecDepth 100000 in
set_option maxHeartbeats 4000000 in
theorem law5_search (b1 o1 c1 b2 o2 c2 b3 o3 c3 n : Nat) (H L A : Nat → Int) (i j : Nat) (h : Int) (w : World) (hn : n ≤ 32768) (hs : bytesB n n n = true) (hi : i + 1 < j) (hj : j ≤ n) (hK : kindOf ((j : Int) - (i : Int)) = 1073741824)
    (x1 : Ints .u64 b1 o1 n H w) (x2 : Ints .u64 b2 o2 n L w) (x3 : Ints .u32 b3 o3 n A w) :
    Calls Tryd.prog 5 #[.slice (some ⟨b1, o1, none⟩) n c1, .slice (some ⟨b2, o2, none⟩) n c2, .slice (some ⟨b3, o3, none⟩) n c3, .bool false, .int .i64 i, .int .i64 j, .int .u64 h, .int .u64 0] w fun e w' =>
      e = .returned (.bool true) ∧ Below w.heap.size w w' := by
  have hby := fun w => bytes_any (some ⟨b1, o1, none⟩) (some ⟨b2, o2, none⟩) (some ⟨b3, o3, none⟩) n n n c1 c2 c3 false i j h 0 w (by omega) (by omega) (by omega)
  rw [hs] at hby
  have hdo := domain_many b1 o1 c1 b2 o2 c2 n c3 (some ⟨b3, o3, none⟩) H L i j h w hn hi hj x1 x2
  have q28 := fun w (a : Addr) n c => run_neq_slice_nil_any (P := Tryd.prog) w 28 30 (some a) n c 0 0 Tryd.underlying28
  have q29 := fun w (a : Addr) n c => run_neq_slice_nil_any (P := Tryd.prog) w 29 35 (some a) n c 0 0 Tryd.underlying29
  obtain ⟨Z1, z1, k1⟩ := make_u64 n hn
  obtain ⟨Z3, z3, k3⟩ := make_u32 n hn
  have HK : Hid (kindOf ((j : Int) - (i : Int)) = 1073741824) := hK
  clear hK
  have hw1 : IntKind.u32.wrap (i : Int) = (i : Int) := u32_wrap_id _ (by omega) (by omega)
  have hw2 : IntKind.u32.wrap (1073741824 + (i : Int)) = 1073741824 + (i : Int) := u32_wrap_id _ (by omega) (by omega)
  have hne : (((j : Int) - (i : Int)) == 1) = false := by simp; omega
  go_enter Tryd.func5, Tryd.ntmps5
  go_wp2_with (go_at_call 15; refine (hby _).mono ?_; rintro e w' ⟨rfl, hw⟩; obtain rfl := hw.symm; clear hw)
  refine hdo.mono ?_
  rintro e w1 ⟨r, kk, rfl, hkk⟩
  have B0 : Below w.heap.size w w1 := by rw [hkk]; exact ⟨rfl, rfl, rfl, Nat.le_refl _, fun _ _ => rfl⟩
  have X1 := x1.below B0
  have X2 := x2.below B0
  have X3 := x3.below B0
  clear hkk hdo
  cases r
  · go_wp2
    go_ret
    exact ⟨rfl, B0⟩
  · go_wp2_with (first
      | (refine wpList_copy_splice rfl (.tmp 62) (.tmp 63) 28 28 rfl 30 Tryd.underlying28 Tryd.isz30 _ _ _ _ _ _ rfl rfl w1.heap.size 0 Z1 30 (heap_alloc_new _ _) (row .u64 n H) (by rw [row_length]; exact (Nat.min_self n).symm) (fun _ => ⟨rfl, _, rfl, row_src (X1.below ((Below.refl _ _).alloc (Nat.le_refl _) _))⟩) (by rw [row_length, z1]; omega) (row_one _ _ _) w1.heap.size w1 ((Below.refl _ _).alloc (Nat.le_refl _) _) (Nat.le_refl _) ?_; intro w2 hg2 hb2)
      | (refine wpList_copy_splice rfl (.tmp 71) (.tmp 72) 28 28 rfl 30 Tryd.underlying28 Tryd.isz30 _ _ _ _ _ _ rfl rfl w2.heap.size 0 Z1 30 (heap_alloc_new _ _) (row .u64 n L) (by rw [row_length]; exact (Nat.min_self n).symm) (fun _ => ⟨rfl, _, rfl, row_src ((X2.below hb2).below ((Below.refl _ _).alloc (Nat.le_refl _) _))⟩) (by rw [row_length, z1]; omega) (row_one _ _ _) w2.heap.size w2 ((Below.refl _ _).alloc (Nat.le_refl _) _) (Nat.le_refl _) ?_; intro w3 hg3 hb3)
      | (refine wpList_copy_splice rfl (.tmp 80) (.tmp 81) 29 29 rfl 35 Tryd.underlying29 Tryd.isz35 _ _ _ _ _ _ rfl rfl w3.heap.size 0 Z3 35 (heap_alloc_new _ _) (row .u32 n A) (by rw [row_length]; exact (Nat.min_self n).symm) (fun _ => ⟨rfl, _, rfl, row_src (((X3.below hb2).below hb3).below ((Below.refl _ _).alloc (Nat.le_refl _) _))⟩) (by rw [row_length, z3]; omega) (row_one _ _ _) w3.heap.size w3 ((Below.refl _ _).alloc (Nat.le_refl _) _) (Nat.le_refl _) ?_; intro w4 hg4 hb4)
      | (go_at_call 17; refine (newIdx_any w1.heap.size 0 n w2.heap.size 0 n w3.heap.size 0 n n H L A false _ hn (((ints_of_row z1 hg2).below hb3).below hb4) ((ints_of_row z1 hg3).below hb4) (ints_of_row z3 hg4)).mono ?_; rintro e w5 ⟨R, B, rfl, r0, r1, rA, hb5⟩))
    have hni : ¬ n = i := by omega
    have hin : (i : Int) ≤ (n : Int) := by omega
    have I1 := (((ints_of_row z1 hg2).below hb3).below hb4).below hb5
    have I2 := ((ints_of_row z1 hg3).below hb4).below hb5
    have I3 := (ints_of_row z3 hg4).below hb5
    have G5 : Below w1.heap.size w1 w5 := hb2.trans ((hb3.mono hb2.size).trans ((hb4.mono (Nat.le_trans hb2.size hb3.size)).trans (hb5.mono (Nat.le_trans hb2.size (Nat.le_trans hb3.size hb4.size)))))
    go_region_with (go_at_call 17; refine (newIdx_any w1.heap.size i (n - i) w2.heap.size i (n - i) w3.heap.size i (n - i) (n - i) (fun m => H (i + m)) (fun m => L (i + m)) (fun m => A (i + m)) false _ (by omega) (ints_shift i I1) (ints_shift i I2) (ints_shift i I3)).mono ?_; rintro e w6 ⟨R2, B2, rfl, s0, s1, sA, hb6⟩)
    have hb7 : Below w5.heap.size w5 w6 := Below.trans (Below.drew (Below.refl _ w5)) hb6
    have t1 : w6.cell? ⟨R, 1, none⟩ = some (.bool false) := (hb7.cell (p := ⟨R, 1, none⟩) (blk_of_cell r1)).trans r1
    have G6 : Below w.heap.size w w6 := B0.trans ((G5.trans (hb7.mono G5.size)).mono B0.size)
    go_wp2_with (first
      | (go_at_call_of 18 R; refine (zslot_at R i j h 1073741824 _ t1 (by omega) (by omega) (by omega) HK.out).mono ?_; rintro e w' ⟨rfl, hw⟩; obtain rfl := hw.symm; clear hw)
      | (go_at_call_of 18 R2; refine (zslot_zero R2 ((j : Int) - (i : Int)) h 1073741824 _ s1 (by omega) (by omega) HK.out).mono ?_; rintro e w' ⟨rfl, hw⟩; obtain rfl := hw.symm; clear hw))
    go_ret
    exact ⟨rfl, G6⟩
end Go.Proofs.Qxb6608729aDoor
