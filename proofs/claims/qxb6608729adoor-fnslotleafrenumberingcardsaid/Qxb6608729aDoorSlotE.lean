/-
  FnSlotLeafRenumbering: the law's walk at a leaf.
-/
import Derived.Test.Qxb6608729aDoorSlotD
namespace Go.Proofs.Qxb6608729aDoor
set_option linter.unusedSimpArgs false
set_option linter.unusedVariables false
open Go.RowKit Go.Stop

theorem Tryd.info30 : (Tryd.prog.info? 30).map (fun i => (i.zero, i.size, i.bytes)) = some (some (.int .u64 0), 1, 8) := by kernel_rfl
theorem Tryd.info35 : (Tryd.prog.info? 35).map (fun i => (i.zero, i.size, i.bytes)) = some (some (.int .u32 0), 1, 4) := by kernel_rfl
theorem Tryd.isz30 : (Tryd.prog.info? 30).map (·.size) = some 1 := by kernel_rfl
theorem Tryd.isz35 : (Tryd.prog.info? 35).map (·.size) = some 1 := by kernel_rfl
theorem make_u64 (n : Nat) (hn : n ≤ 32768) : ∃ Z : List Value, Z.length = n ∧ ∀ w, (Instr.makeSlice 28 (.int .i64 n) (.int .i64 n)).run Tryd.prog w = .ok (.slice (some ⟨w.heap.size, 0, none⟩) n n) (w.alloc (.cells Z.toArray 30)) := by
  obtain ⟨i0, hi, hz0, hz1, hz2⟩ := info_parts Tryd.info30
  refine ⟨(madeCells (Value.int .u64 0).cells n).toList, by simp [size_madeCells], fun w => ?_⟩
  have := run_make (P := Tryd.prog) w 28 30 i0 _ Tryd.underlying28 hi hz0 .i64 .i64 n n (by omega) (by omega) (by rw [hz2]; omega) (by omega)
  rw [hz1] at this
  simpa using this
theorem make_u32 (n : Nat) (hn : n ≤ 32768) : ∃ Z : List Value, Z.length = n ∧ ∀ w, (Instr.makeSlice 29 (.int .i64 n) (.int .i64 n)).run Tryd.prog w = .ok (.slice (some ⟨w.heap.size, 0, none⟩) n n) (w.alloc (.cells Z.toArray 35)) := by
  obtain ⟨i0, hi, hz0, hz1, hz2⟩ := info_parts Tryd.info35
  refine ⟨(madeCells (Value.int .u32 0).cells n).toList, by simp [size_madeCells], fun w => ?_⟩
  have := run_make (P := Tryd.prog) w 29 35 i0 _ Tryd.underlying29 hi hz0 .i64 .i64 n n (by omega) (by omega) (by rw [hz2]; omega) (by omega)
  rw [hz1] at this
  simpa using this

/-- The cells of n integers. -/
def row (k : IntKind) (n : Nat) (f : Nat → Int) : List Value := (List.range n).map fun m => .int k (f m)
theorem row_length (k : IntKind) (n : Nat) (f : Nat → Int) : (row k n f).length = n := by simp [row]
theorem row_get {k : IntKind} {n : Nat} {f : Nat → Int} {j : Nat} {v : Value} (h : (row k n f)[j]? = some v) : j < n ∧ v = .int k (f j) := by
  have hj : j < n := by
    rcases Nat.lt_or_ge j n with h' | h'
    · exact h'
    · rw [List.getElem?_eq_none (by simp [row_length]; exact h')] at h; cases h
  refine ⟨hj, ?_⟩
  simp [row, List.getElem?_map, List.getElem?_range hj] at h
  exact h.symm
theorem row_one (k : IntKind) (n : Nat) (f : Nat → Int) : ∀ v ∈ row k n f, v.oneCell' = true := fun v hv => by
  obtain ⟨m, _, rfl⟩ := List.mem_map.1 hv; rfl
theorem row_src {k : IntKind} {b o n : Nat} {f : Nat → Int} {w : World} (h : Ints k b o n f w) : ∀ j v, (row k n f)[j]? = some v → w.cell? ((⟨b, o, none⟩ : Addr).add j) = some v := fun j v hv => by
  obtain ⟨hj, rfl⟩ := row_get hv
  rw [Addr.add_mid]; exact h j hj
theorem ints_of_row {k : IntKind} {g n : Nat} {f : Nat → Int} {w : World} {Z : List Value} {t : TypeId} (hz : Z.length = n) (h : Hid (w.heap[g]? = some (.cells (splice Z 0 (row k n f)).toArray t (0, 0)))) : Ints k g 0 n f w := fun m hm => by
  rw [Nat.zero_add, cell_of_row _ _ m _ _ _ h.out]
  have : splice Z 0 (row k n f) = row k n f := by
    simp only [splice, List.take_zero, List.nil_append, row_length, Nat.zero_add]
    rw [List.drop_eq_nil_of_le (by omega), List.append_nil]
  rw [this]
  simp [row, List.getElem?_map, List.getElem?_range hm]
theorem lt_of_hid {w : World} {g : Nat} {o : Obj} (h : Hid (w.heap[g]? = some o)) : g < w.heap.size := by
  rcases Nat.lt_or_ge g w.heap.size with h' | h'
  · exact h'
  · have := h.out; simp [Array.getElem?_eq_none h'] at this

theorem ints_shift {k : IntKind} {b n : Nat} {f : Nat → Int} {w : World} (i : Nat) (h : Ints k b 0 n f w) : Ints k b i (n - i) (fun m => f (i + m)) w.drew := fun m hm => by
  have := h (i + m) (by omega)
  rw [Nat.zero_add] at this
  exact this

set_option maxRecDepth 100000 in
set_option maxHeartbeats 4000000 in
theorem law5_one (b1 o1 c1 b2 o2 c2 b3 o3 c3 n : Nat) (H L A : Nat → Int) (v4 : Bool) (i : Nat) (h f : Int) (w : World) (hn : n ≤ 32768) (hs : bytesB n n n = true) (hi : i + 1 ≤ n) (hf : f ≤ 64)
    (x1 : Ints .u64 b1 o1 n H w) (x2 : Ints .u64 b2 o2 n L w) (x3 : Ints .u32 b3 o3 n A w) :
    Calls Tryd.prog 5 #[.slice (some ⟨b1, o1, none⟩) n c1, .slice (some ⟨b2, o2, none⟩) n c2, .slice (some ⟨b3, o3, none⟩) n c3, .bool v4, .int .i64 i, .int .i64 ((i : Int) + 1), .int .u64 h, .int .u64 f] w fun e w' =>
      e = .returned (.bool true) ∧ Below w.heap.size w w' := by
  have hby := fun w => bytes_any (some ⟨b1, o1, none⟩) (some ⟨b2, o2, none⟩) (some ⟨b3, o3, none⟩) n n n c1 c2 c3 v4 i ((i : Int) + 1) h f w (by omega) (by omega) (by omega)
  rw [hs] at hby
  have hdo := fun w => domain_one (some ⟨b1, o1, none⟩) (some ⟨b2, o2, none⟩) (some ⟨b3, o3, none⟩) n c1 c2 c3 v4 i h f w hn hi hf
  have q28 := fun w (a : Addr) n c => run_neq_slice_nil_any (P := Tryd.prog) w 28 30 (some a) n c 0 0 Tryd.underlying28
  have q29 := fun w (a : Addr) n c => run_neq_slice_nil_any (P := Tryd.prog) w 29 35 (some a) n c 0 0 Tryd.underlying29
  obtain ⟨Z1, z1, k1⟩ := make_u64 n hn
  obtain ⟨Z3, z3, k3⟩ := make_u32 n hn
  go_enter Tryd.func5, Tryd.ntmps5
  go_wp2_with (first
    | (go_at_call 15; refine (hby _).mono ?_; rintro e w' ⟨rfl, hw⟩; obtain rfl := hw.symm; clear hw)
    | (go_at_call 16; refine (hdo _).mono ?_; rintro e w' ⟨rfl, hw⟩; obtain rfl := hw.symm; clear hw)
    | (refine wpList_copy_splice rfl (.tmp 62) (.tmp 63) 28 28 rfl 30 Tryd.underlying28 Tryd.isz30 _ _ _ _ _ _ rfl rfl w.heap.size 0 Z1 30 (heap_alloc_new _ _) (row .u64 n H) (by rw [row_length]; exact (Nat.min_self n).symm) (fun _ => ⟨rfl, _, rfl, row_src (x1.below ((Below.refl _ _).alloc (Nat.le_refl _) _))⟩) (by rw [row_length, z1]; omega) (row_one _ _ _) w.heap.size w ((Below.refl _ _).alloc (Nat.le_refl _) _) (Nat.le_refl _) ?_; intro w2 hg2 hb2)
    | (refine wpList_copy_splice rfl (.tmp 71) (.tmp 72) 28 28 rfl 30 Tryd.underlying28 Tryd.isz30 _ _ _ _ _ _ rfl rfl w2.heap.size 0 Z1 30 (heap_alloc_new _ _) (row .u64 n L) (by rw [row_length]; exact (Nat.min_self n).symm) (fun _ => ⟨rfl, _, rfl, row_src ((x2.below hb2).below ((Below.refl _ _).alloc (Nat.le_refl _) _))⟩) (by rw [row_length, z1]; omega) (row_one _ _ _) w2.heap.size w2 ((Below.refl _ _).alloc (Nat.le_refl _) _) (Nat.le_refl _) ?_; intro w3 hg3 hb3)
    | (refine wpList_copy_splice rfl (.tmp 80) (.tmp 81) 29 29 rfl 35 Tryd.underlying29 Tryd.isz35 _ _ _ _ _ _ rfl rfl w3.heap.size 0 Z3 35 (heap_alloc_new _ _) (row .u32 n A) (by rw [row_length]; exact (Nat.min_self n).symm) (fun _ => ⟨rfl, _, rfl, row_src (((x3.below hb2).below hb3).below ((Below.refl _ _).alloc (Nat.le_refl _) _))⟩) (by rw [row_length, z3]; omega) (row_one _ _ _) w3.heap.size w3 ((Below.refl _ _).alloc (Nat.le_refl _) _) (Nat.le_refl _) ?_; intro w4 hg4 hb4)
    | (go_at_call 17; refine (newIdx_any w.heap.size 0 n w2.heap.size 0 n w3.heap.size 0 n n H L A v4 _ hn (((ints_of_row z1 hg2).below hb3).below hb4) ((ints_of_row z1 hg3).below hb4) (ints_of_row z3 hg4)).mono ?_; rintro e w5 ⟨R, B, rfl, r0, r1, rA, hb5⟩))
  have hni : ¬ n = i := by omega
  have hin : (i : Int) ≤ (n : Int) := by omega
  have I1 := (((ints_of_row z1 hg2).below hb3).below hb4).below hb5
  have I2 := ((ints_of_row z1 hg3).below hb4).below hb5
  have I3 := (ints_of_row z3 hg4).below hb5
  have G5 : Below w.heap.size w w5 := hb2.trans ((hb3.mono hb2.size).trans ((hb4.mono (Nat.le_trans hb2.size hb3.size)).trans (hb5.mono (Nat.le_trans hb2.size (Nat.le_trans hb3.size hb4.size)))))
  have ee : ((i : Int) + 1 - (i : Int)) = 1 := by omega
  go_region_with (go_at_call 17; refine (newIdx_any w.heap.size i (n - i) w2.heap.size i (n - i) w3.heap.size i (n - i) (n - i) (fun m => H (i + m)) (fun m => L (i + m)) (fun m => A (i + m)) v4 _ (by omega) (ints_shift i I1) (ints_shift i I2) (ints_shift i I3)).mono ?_; rintro e w6 ⟨R2, B2, rfl, s0, s1, sA, hb6⟩)
  have hb7 : Below w5.heap.size w5 w6 := Below.trans (Below.drew (Below.refl _ w5)) hb6
  have t0 : w6.cell? ⟨R, 0, none⟩ = some (.slice (some ⟨B, 0, none⟩) n n) := (hb6.cell (p := ⟨R, 0, none⟩) (blk_of_cell r0)).trans r0
  have tA : w6.cell? ⟨B, i * 3 + 2, none⟩ = some (.int .u32 (A i)) := (hb6.cell (p := ⟨B, i * 3 + 2, none⟩) (blk_of_cell (rA i (by omega)))).trans (rA i (by omega))
  have sA0 : w6.cell? ⟨B2, 2, none⟩ = some (.int .u32 (A i)) := by simpa using sA 0 (by omega)
  have ca : w6.cell? ⟨w3.heap.size, i, none⟩ = some (.int .u32 (A i)) := by simpa using (I3.below (W := w5) hb7) i (by omega)
  have hin' : (i : Int) < (n : Int) := by omega
  have G6 : Below w.heap.size w w6 := G5.trans (hb7.mono G5.size)
  go_wp2_with (first
    | (go_at_call_of 18 R; refine (zslot_one R B n n i ((i : Int) + 1) h f (A i) _ t0 (by omega) (by omega) tA (by omega)).mono ?_; rintro e w' ⟨rfl, hw⟩; obtain rfl := hw.symm; clear hw)
    | (go_at_call_of 18 R2; refine (zslot_first R2 B2 (n - i) (n - i) h f (A i) _ s0 (by omega) sA0).mono ?_; rintro e w' ⟨rfl, hw⟩; obtain rfl := hw.symm; clear hw))
  go_ret
  exact ⟨rfl, G6⟩
end Go.Proofs.Qxb6608729aDoor
