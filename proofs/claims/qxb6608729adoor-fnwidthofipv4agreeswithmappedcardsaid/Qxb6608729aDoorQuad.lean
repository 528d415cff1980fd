/-
  Walks over net/netip.AddrFrom4 and the project's ZZwidthOf4.
-/
import Derived.Test.Qxb6608729aDoorFour
import Derived.Test.Qxb6608729aDoorSix
namespace Go.Proofs.Qxb6608729aDoor
set_option linter.unusedSimpArgs false
set_option linter.unusedVariables false
open Go.RowKit Go.Stop

/-- Four bytes, the greatest first. -/
def q4 (a : Nat → Int) : Int := be4 (a 0) (a 1) (a 2) (a 3)
theorem q4_bd (a : Nat → Int) (ha : ∀ i, Byte (a i)) : 0 ≤ q4 a ∧ q4 a < 4294967296 := be4_bd (ha 0) (ha 1) (ha 2) (ha 3)
theorem or_chain (b0 b1 b2 b3 : Int) (y0 : Byte b0) (y1 : Byte b1) (y2 : Byte b2) (y3 : Byte b3) :
    bits .or .u64 (bits .or .u64 (bits .or .u64 (bits .or .u64 281470681743360 (b0 * 16777216)) (b1 * 65536)) (b2 * 256)) b3 = V4 (be4 b0 b1 b2 b3) := by
  unfold Byte at *
  rw [bits_join .u64 64 (by decide) wraps_u64 32 281470681743360 (b0 * 16777216) (by omega) (by omega) (by omega) (by omega) (by omega) (by omega)]
  rw [bits_join .u64 64 (by decide) wraps_u64 24 (281470681743360 + b0 * 16777216) (b1 * 65536) (by omega) (by omega) (by omega) (by omega) (by omega) (by omega)]
  rw [bits_join .u64 64 (by decide) wraps_u64 16 (281470681743360 + b0 * 16777216 + b1 * 65536) (b2 * 256) (by omega) (by omega) (by omega) (by omega) (by omega) (by omega)]
  rw [bits_join .u64 64 (by decide) wraps_u64 8 (281470681743360 + b0 * 16777216 + b1 * 65536 + b2 * 256) b3 (by omega) (by omega) (by omega) (by omega) (by omega) (by omega)]
  unfold V4 be4; omega

set_option maxHeartbeats 1000000 in
theorem from4_walk (a : Nat → Int) (p4 p6 : Addr) (w : World) (z : Zs p4 p6 w) (ha : ∀ i, Byte (a i)) :
    Calls Tryd.prog 29 #[.agg #[.int .u8 (a 0), .int .u8 (a 1), .int .u8 (a 2), .int .u8 (a 3)]] w fun e w' =>
      e = .returned (.agg #[.int .u64 0, .int .u64 (V4 (q4 a)), .pointer (some p4)]) ∧ Below w.heap.size w w' := by
  have z4 := fun o1 o2 => ((z.alloc o1).alloc o2).c4
  have ho := or_chain (a 0) (a 1) (a 2) (a 3) (ha 0) (ha 1) (ha 2) (ha 3)
  obtain ⟨l0, h0⟩ := ha 0; obtain ⟨l1, h1⟩ := ha 1; obtain ⟨l2, h2⟩ := ha 2; obtain ⟨l3, h3⟩ := ha 3
  rw [show be4 (a 0) (a 1) (a 2) (a 3) = q4 a from rfl] at ho
  go_enter Tryd.func29, Tryd.ntmps29
  go_wp2
  refine bodyPost_ret (v := .agg #[.int .u64 0, .int .u64 (V4 (q4 a)), .pointer (some p4)]) (by simp [results, Tryd.results29, go_sem, ho]) rfl ⟨rfl, ?_⟩
  go_grown
theorem from4_any (a : Nat → Int) (p4 p6 : Addr) (w : World) (z : Zs p4 p6 w) (ha : ∀ i, Byte (a i)) :
    Calls Tryd.prog 29 #[.agg #[.int .u8 (a 0), .int .u8 (a 1), .int .u8 (a 2), .int .u8 (a 3)]] w fun e w' =>
      e = .returned (.agg #[.int .u64 0, .int .u64 (V4 (q4 a)), .pointer (some p4)]) ∧ Below w.heap.size w w' ∧ Zs p4 p6 w' :=
  (from4_walk a p4 p6 w z ha).mono fun _ _ h => ⟨h.1, h.2, z.below h.2⟩

/-- What stands through the statement that calls three times. -/
abbrev Held4 (w : World) (la lb : List Value) (w' : World) : Prop :=
  w'.rangeAt w.heap.size 0 la ∧ w'.rangeAt (w.heap.size + 1) 0 lb ∧ Below w.heap.size w w' ∧ w.heap.size + 1 < w'.heap.size

section
variable {w : World} {la lb : List Value} {p4 p6 : Addr}
theorem Held4.z {w' : World} (h : Held4 w la lb w') (z : Zs p4 p6 w) : Zs p4 p6 w' := z.below h.2.2.1
theorem Held4.call {w' w1 : World} (h : Held4 w la lb w') (hb : Below w'.heap.size w' w1) : Held4 w la lb w1 :=
  ⟨rangeAt_below h.1 hb, rangeAt_below h.2.1 hb, h.2.2.1.trans (hb.mono (by have := h.2.2.2; omega)), by have := hb.size; have := h.2.2.2; omega⟩
theorem Held4.alloc {w' : World} (h : Held4 w la lb w') (o : Obj) : Held4 w la lb (w'.alloc o) := Held4.call h ((Below.refl _ _).alloc (Nat.le_refl _) _)
theorem Held4.start (w : World) (la lb : List Value) : Held4 w la lb (((w.alloc (.cells la.toArray 42)).alloc (.cells lb.toArray 42)).drew) := by
  refine ⟨fun j v hv => ?_, fun j v hv => ?_, by go_grown, by simp⟩
  · have := cell_of_row (((w.alloc (.cells la.toArray 42)).alloc (.cells lb.toArray 42)).drew) w.heap.size j _ _ _ (heap_alloc2_old w _ _)
    simp only [Nat.zero_add]; rw [this]; simpa using hv
  · have := cell_of_row (((w.alloc (.cells la.toArray 42)).alloc (.cells lb.toArray 42)).drew) (w.heap.size + 1) j _ _ _ (heap_alloc2_new w _ _)
    simp only [Nat.zero_add]; rw [this]; simpa using hv
theorem Held4.store {w' : World} (h : Held4 w la lb w') {g i : Nat} (hg : w.heap.size + 1 < g) (v : Value) : Held4 w la lb (w'.setCell ⟨g, i, none⟩ v) :=
  ⟨fun j u hv => (cell_setCell_off _ _ _ _ (by show w.heap.size ≠ g; omega)).trans (h.1 j u hv), fun j u hv => (cell_setCell_off _ _ _ _ (by show w.heap.size + 1 ≠ g; omega)).trans (h.2.1 j u hv),
    h.2.2.1.setCell (by show w.heap.size ≤ g; omega) _, by simpa using h.2.2.2⟩
end

theorem Tryd.isize42 : (Tryd.prog.info? 42).map (·.size) = some 4 := by kernel_rfl
set_option maxRecDepth 100000 in
set_option maxHeartbeats 2000000 in
theorem width4_opaque (la lb : List Value) (x y : Int) (p4 p6 : Addr) (w : World) (z : Zs p4 p6 w)
    (h1 : 0 ≤ x) (h2 : x < 4294967296) (h3 : 0 ≤ y) (h4 : y < 4294967296) (sa : la.length = 4) (sb : lb.length = 4)
    (ca : ∀ w, Zs p4 p6 w → Calls Tryd.prog 29 #[.agg la.toArray] w fun e w' => e = .returned (.agg #[.int .u64 0, .int .u64 (V4 x), .pointer (some p4)]) ∧ Below w.heap.size w w' ∧ Zs p4 p6 w')
    (cb : ∀ w, Zs p4 p6 w → Calls Tryd.prog 29 #[.agg lb.toArray] w fun e w' => e = .returned (.agg #[.int .u64 0, .int .u64 (V4 y), .pointer (some p4)]) ∧ Below w.heap.size w w' ∧ Zs p4 p6 w') :
    Calls Tryd.prog 22 #[.agg la.toArray, .agg lb.toArray] w fun e w' =>
      e = .returned (.tuple #[.int .u64 (dhi 0 (V4 y) 0 (V4 x)), .int .u64 (dlo (V4 y) (V4 x))]) ∧ Below w.heap.size w w' := by
  have u42 := Tryd.underlying42
  have ia : (Tryd.prog.info? 42).map (·.size) = some la.length := by rw [sa]; exact Tryd.isize42
  have ib : (Tryd.prog.info? 42).map (·.size) = some lb.length := by rw [sb]; exact Tryd.isize42
  have H0 := Held4.start w la lb
  go_enter Tryd.func22, Tryd.ntmps22
  go_wp2
  refine wp_region_noPanic ?_
  refine wp_region_held_drew (S := Held4 w la lb) (by kernel_rfl) H0 (fun hHeld => ?_)
  clear H0
  refine wpAnyH_take (i := 0) (oi := _) (v := .agg la.toArray) rfl (by kernel_rfl) (by kernel_rfl) (by kernel_rfl) (fun _ _ _ h => h) (yieldsIf_load_mid (by rfl) _ _ rfl _ _ rfl la _ (fun _ h => h.1) u42 rfl ia) hHeld ?_
  simp only [Act.put, List.setIfInBounds_toArray, List.set_cons_zero, List.set_cons_succ]
  refine wpAnyH_take (i := 2) (oi := _) (v := .agg lb.toArray) rfl (by kernel_rfl) (by kernel_rfl) (by kernel_rfl) (fun _ _ _ h => h) (yieldsIf_load_mid (by rfl) _ _ rfl _ _ rfl lb _ (fun _ h => h.2.1) u42 rfl ib) hHeld ?_
  simp only [Act.put, List.setIfInBounds_toArray, List.set_cons_zero, List.set_cons_succ]
  refine wpAnyH_ready (rs := [1, 5]) (by kernel_rfl) (by simp) ?_
  refine AllReadyH.cons (o := _) rfl (fun K hK => ?_) ?_
  · go_simp
    refine (ca _ (Held4.z hHeld z)).mono ?_
    rintro e w1 ⟨rfl, hb1, -⟩
    refine hK.out _ _ (Held4.call hHeld hb1) (fun hHeld => ?_)
    have hHw1 := hHeld
    clear hK K
    try simp only [Act.put, List.setIfInBounds_toArray, List.set_cons_zero, List.set_cons_succ]
    refine wpAnyH_ready (rs := [3, 5]) (by kernel_rfl) (by simp) ?_
    refine AllReadyH.cons (o := _) rfl (fun K hK => ?_) ?_
    · go_simp
      refine (cb _ (Held4.z hHeld z)).mono ?_
      rintro e w2 ⟨rfl, hb2, -⟩
      refine hK.out _ _ (Held4.call hHeld hb2) (fun hHeld => ?_)
      have hHw2 := hHeld
      clear hK K
      try simp only [Act.put, List.setIfInBounds_toArray, List.set_cons_zero, List.set_cons_succ]
      refine wpAnyH_ready (rs := [4, 5]) (by kernel_rfl) (by simp) ?_
      refine AllReadyH.cons (o := _) rfl (fun K hK => ?_) ?_
      · go_simp
        refine (widthOf_four x y p4 p6 _ (Held4.z hHeld z) h1 h2 h3 h4).mono ?_
        rintro e w3 ⟨rfl, hb3⟩
        refine hK.out _ _ (Held4.call hHeld hb3) (fun hHeld => ?_)
        have hHw3 := hHeld
        clear hK K
        try simp only [Act.put, List.setIfInBounds_toArray, List.set_cons_zero, List.set_cons_succ]
        refine wpAnyH_ready (rs := [5]) (by kernel_rfl) (by simp) ?_
        refine AllReadyH.cons (o := _) rfl (fun K hK => ?_) ?_
        · go_simp
          refine hK.out _ _ (Held4.alloc hHeld _) (fun hHeld => ?_)
          skip
          have hB : (w3.alloc (.cells #[.int .u64 0, .int .u64 0] 49)).heap[w3.heap.size]? = some (.cells #[.int .u64 0, .int .u64 0] 49) := heap_alloc_new _ _
          clear hK K
          try simp only [Act.put, List.setIfInBounds_toArray, List.set_cons_zero, List.set_cons_succ]
          refine wpAnyH_ready (rs := [6]) (by kernel_rfl) (by simp) ?_
          refine AllReadyH.cons (o := _) rfl (fun K hK => ?_) ?_
          · have hHg := hHeld.2.2.2
            have c0 := cell_of_row _ _ 0 _ _ _ hB
            have c1 := cell_of_row _ _ 1 _ _ _ hB
            have f0 := frozen_of_row _ _ 0 _ _ hB
            have f1 := frozen_of_row _ _ 1 _ _ hB
            simp at c0 c1 f0 f1
            go_simp
            refine hK.out _ _ (Held4.alloc hHw3 _) (fun hHeld => ?_)
            clear hK K
            refine wpAnyH_done (by kernel_rfl) ?_ _
            refine NoPanic.normal ?_
            go_wp2
            go_quiet (fail)
            go_wp2
            go_ret2
            exact ⟨rfl, below_dN (hHeld.2.2.1)⟩
          exact AllReadyH.nil
        exact AllReadyH.nil
      refine AllReadyH.cons (o := _) rfl (fun K hK => ?_) ?_
      · go_simp
        refine hK.out _ _ (Held4.alloc hHeld _) (fun hHeld => ?_)
        skip
        have hB : (w2.alloc (.cells #[.int .u64 0, .int .u64 0] 49)).heap[w2.heap.size]? = some (.cells #[.int .u64 0, .int .u64 0] 49) := heap_alloc_new _ _
        clear hK K
        try simp only [Act.put, List.setIfInBounds_toArray, List.set_cons_zero, List.set_cons_succ]
        refine wpAnyH_ready (rs := [4]) (by kernel_rfl) (by simp) ?_
        refine AllReadyH.cons (o := _) rfl (fun K hK => ?_) ?_
        · go_simp
          refine (widthOf_four x y p4 p6 _ (Held4.z hHeld z) h1 h2 h3 h4).mono ?_
          rintro e w3 ⟨rfl, hb3⟩
          refine hK.out _ _ (Held4.call hHeld hb3) (fun hHeld => ?_)
          have hHw3 := hHeld
          have hB := blk_later hB hb3
          clear hK K
          try simp only [Act.put, List.setIfInBounds_toArray, List.set_cons_zero, List.set_cons_succ]
          refine wpAnyH_ready (rs := [6]) (by kernel_rfl) (by simp) ?_
          refine AllReadyH.cons (o := _) rfl (fun K hK => ?_) ?_
          · have hHg := hHeld.2.2.2
            have c0 := cell_of_row _ _ 0 _ _ _ hB
            have c1 := cell_of_row _ _ 1 _ _ _ hB
            have f0 := frozen_of_row _ _ 0 _ _ hB
            have f1 := frozen_of_row _ _ 1 _ _ hB
            simp at c0 c1 f0 f1
            go_simp
            refine hK.out _ _ (Held4.store (Held4.store hHeld (hHw2.2.2.2) _) (hHw2.2.2.2) _) (fun hHeld => ?_)
            clear hK K
            refine wpAnyH_done (by kernel_rfl) ?_ _
            refine NoPanic.normal ?_
            go_wp2
            go_quiet (fail)
            go_wp2
            go_ret2
            exact ⟨rfl, below_dN (hHeld.2.2.1)⟩
          exact AllReadyH.nil
        exact AllReadyH.nil
      exact AllReadyH.nil
    refine AllReadyH.cons (o := _) rfl (fun K hK => ?_) ?_
    · go_simp
      refine hK.out _ _ (Held4.alloc hHeld _) (fun hHeld => ?_)
      skip
      have hB : (w1.alloc (.cells #[.int .u64 0, .int .u64 0] 49)).heap[w1.heap.size]? = some (.cells #[.int .u64 0, .int .u64 0] 49) := heap_alloc_new _ _
      clear hK K
      try simp only [Act.put, List.setIfInBounds_toArray, List.set_cons_zero, List.set_cons_succ]
      refine wpAnyH_ready (rs := [3]) (by kernel_rfl) (by simp) ?_
      refine AllReadyH.cons (o := _) rfl (fun K hK => ?_) ?_
      · go_simp
        refine (cb _ (Held4.z hHeld z)).mono ?_
        rintro e w2 ⟨rfl, hb2, -⟩
        refine hK.out _ _ (Held4.call hHeld hb2) (fun hHeld => ?_)
        have hHw2 := hHeld
        have hB := blk_later hB hb2
        clear hK K
        try simp only [Act.put, List.setIfInBounds_toArray, List.set_cons_zero, List.set_cons_succ]
        refine wpAnyH_ready (rs := [4]) (by kernel_rfl) (by simp) ?_
        refine AllReadyH.cons (o := _) rfl (fun K hK => ?_) ?_
        · go_simp
          refine (widthOf_four x y p4 p6 _ (Held4.z hHeld z) h1 h2 h3 h4).mono ?_
          rintro e w3 ⟨rfl, hb3⟩
          refine hK.out _ _ (Held4.call hHeld hb3) (fun hHeld => ?_)
          have hHw3 := hHeld
          have hB := blk_later hB hb3
          clear hK K
          try simp only [Act.put, List.setIfInBounds_toArray, List.set_cons_zero, List.set_cons_succ]
          refine wpAnyH_ready (rs := [6]) (by kernel_rfl) (by simp) ?_
          refine AllReadyH.cons (o := _) rfl (fun K hK => ?_) ?_
          · have hHg := hHeld.2.2.2
            have c0 := cell_of_row _ _ 0 _ _ _ hB
            have c1 := cell_of_row _ _ 1 _ _ _ hB
            have f0 := frozen_of_row _ _ 0 _ _ hB
            have f1 := frozen_of_row _ _ 1 _ _ hB
            simp at c0 c1 f0 f1
            go_simp
            refine hK.out _ _ (Held4.store (Held4.store hHeld (hHw1.2.2.2) _) (hHw1.2.2.2) _) (fun hHeld => ?_)
            clear hK K
            refine wpAnyH_done (by kernel_rfl) ?_ _
            refine NoPanic.normal ?_
            go_wp2
            go_quiet (fail)
            go_wp2
            go_ret2
            exact ⟨rfl, below_dN (hHeld.2.2.1)⟩
          exact AllReadyH.nil
        exact AllReadyH.nil
      exact AllReadyH.nil
    exact AllReadyH.nil
  refine AllReadyH.cons (o := _) rfl (fun K hK => ?_) ?_
  · go_simp
    refine hK.out _ _ (Held4.alloc hHeld _) (fun hHeld => ?_)
    skip
    have hB : ((((w.alloc (.cells la.toArray 42)).alloc (.cells lb.toArray 42)).drew).alloc (.cells #[.int .u64 0, .int .u64 0] 49)).heap[(((w.alloc (.cells la.toArray 42)).alloc (.cells lb.toArray 42)).drew).heap.size]? = some (.cells #[.int .u64 0, .int .u64 0] 49) := heap_alloc_new _ _
    clear hK K
    try simp only [Act.put, List.setIfInBounds_toArray, List.set_cons_zero, List.set_cons_succ]
    refine wpAnyH_ready (rs := [1]) (by kernel_rfl) (by simp) ?_
    refine AllReadyH.cons (o := _) rfl (fun K hK => ?_) ?_
    · go_simp
      refine (ca _ (Held4.z hHeld z)).mono ?_
      rintro e w1 ⟨rfl, hb1, -⟩
      refine hK.out _ _ (Held4.call hHeld hb1) (fun hHeld => ?_)
      have hHw1 := hHeld
      have hB := blk_later hB hb1
      clear hK K
      try simp only [Act.put, List.setIfInBounds_toArray, List.set_cons_zero, List.set_cons_succ]
      refine wpAnyH_ready (rs := [3]) (by kernel_rfl) (by simp) ?_
      refine AllReadyH.cons (o := _) rfl (fun K hK => ?_) ?_
      · go_simp
        refine (cb _ (Held4.z hHeld z)).mono ?_
        rintro e w2 ⟨rfl, hb2, -⟩
        refine hK.out _ _ (Held4.call hHeld hb2) (fun hHeld => ?_)
        have hHw2 := hHeld
        have hB := blk_later hB hb2
        clear hK K
        try simp only [Act.put, List.setIfInBounds_toArray, List.set_cons_zero, List.set_cons_succ]
        refine wpAnyH_ready (rs := [4]) (by kernel_rfl) (by simp) ?_
        refine AllReadyH.cons (o := _) rfl (fun K hK => ?_) ?_
        · go_simp
          refine (widthOf_four x y p4 p6 _ (Held4.z hHeld z) h1 h2 h3 h4).mono ?_
          rintro e w3 ⟨rfl, hb3⟩
          refine hK.out _ _ (Held4.call hHeld hb3) (fun hHeld => ?_)
          have hHw3 := hHeld
          have hB := blk_later hB hb3
          clear hK K
          try simp only [Act.put, List.setIfInBounds_toArray, List.set_cons_zero, List.set_cons_succ]
          refine wpAnyH_ready (rs := [6]) (by kernel_rfl) (by simp) ?_
          refine AllReadyH.cons (o := _) rfl (fun K hK => ?_) ?_
          · have hHg := hHeld.2.2.2
            have c0 := cell_of_row _ _ 0 _ _ _ hB
            have c1 := cell_of_row _ _ 1 _ _ _ hB
            have f0 := frozen_of_row _ _ 0 _ _ hB
            have f1 := frozen_of_row _ _ 1 _ _ hB
            simp at c0 c1 f0 f1
            go_simp
            refine hK.out _ _ (Held4.store (Held4.store hHeld (by simp) _) (by simp) _) (fun hHeld => ?_)
            clear hK K
            refine wpAnyH_done (by kernel_rfl) ?_ _
            refine NoPanic.normal ?_
            go_wp2
            go_quiet (fail)
            go_wp2
            go_ret2
            exact ⟨rfl, below_dN (hHeld.2.2.1)⟩
          exact AllReadyH.nil
        exact AllReadyH.nil
      exact AllReadyH.nil
    exact AllReadyH.nil
  exact AllReadyH.nil


/-- ZZwidthOf4. -/
theorem width4_any (a b : Nat → Int) (p4 p6 : Addr) (w : World) (z : Zs p4 p6 w) (ha : ∀ i, Byte (a i)) (hb : ∀ i, Byte (b i)) :
    Calls Tryd.prog 22 #[.agg #[.int .u8 (a 0), .int .u8 (a 1), .int .u8 (a 2), .int .u8 (a 3)], .agg #[.int .u8 (b 0), .int .u8 (b 1), .int .u8 (b 2), .int .u8 (b 3)]] w fun e w' =>
      e = .returned (.tuple #[.int .u64 (dhi 0 (V4 (q4 b)) 0 (V4 (q4 a))), .int .u64 (dlo (V4 (q4 b)) (V4 (q4 a)))]) ∧ Below w.heap.size w w' :=
  width4_opaque [.int .u8 (a 0), .int .u8 (a 1), .int .u8 (a 2), .int .u8 (a 3)] [.int .u8 (b 0), .int .u8 (b 1), .int .u8 (b 2), .int .u8 (b 3)] (q4 a) (q4 b) p4 p6 w z (q4_bd a ha).1 (q4_bd a ha).2 (q4_bd b hb).1 (q4_bd b hb).2 rfl rfl
    (fun w z => from4_any a p4 p6 w z ha) (fun w z => from4_any b p4 p6 w z hb)

end Go.Proofs.Qxb6608729aDoor
