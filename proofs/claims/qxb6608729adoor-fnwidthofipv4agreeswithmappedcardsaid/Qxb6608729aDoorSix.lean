/-
  Walks over net/netip.AddrFrom16 and the project's ZZwidthOf6.
-/
import Derived.Test.Qxb6608729aDoorMinus
namespace Go.Proofs.Qxb6608729aDoor
set_option linter.unusedSimpArgs false
set_option linter.unusedVariables false
open Go.RowKit Go.Stop

theorem be8_word {b0 b1 b2 b3 b4 b5 b6 b7 : Int} (y0 : Byte b0) (y1 : Byte b1) (y2 : Byte b2) (y3 : Byte b3) (y4 : Byte b4) (y5 : Byte b5) (y6 : Byte b6) (y7 : Byte b7) : Word (be8 b0 b1 b2 b3 b4 b5 b6 b7) := by
  unfold Byte at *; unfold be8 Word; omega
/-- The two words of sixteen bytes. -/
def hiW (a : Nat → Int) : Int := be8 (a 0) (a 1) (a 2) (a 3) (a 4) (a 5) (a 6) (a 7)
def loW (a : Nat → Int) : Int := be8 (a 8) (a 9) (a 10) (a 11) (a 12) (a 13) (a 14) (a 15)
theorem hiW_word (a : Nat → Int) (ha : ∀ i, Byte (a i)) : Word (hiW a) := be8_word (ha 0) (ha 1) (ha 2) (ha 3) (ha 4) (ha 5) (ha 6) (ha 7)
theorem loW_word (a : Nat → Int) (ha : ∀ i, Byte (a i)) : Word (loW a) := be8_word (ha 8) (ha 9) (ha 10) (ha 11) (ha 12) (ha 13) (ha 14) (ha 15)

set_option maxHeartbeats 1000000 in
theorem from16_walk (a : Nat → Int) (p4 p6 : Addr) (w : World) (z : Zs p4 p6 w) (ha : ∀ i, Byte (a i)) :
    Calls Tryd.prog 28 #[.agg #[.int .u8 (a 0), .int .u8 (a 1), .int .u8 (a 2), .int .u8 (a 3), .int .u8 (a 4), .int .u8 (a 5), .int .u8 (a 6), .int .u8 (a 7), .int .u8 (a 8), .int .u8 (a 9), .int .u8 (a 10), .int .u8 (a 11), .int .u8 (a 12), .int .u8 (a 13), .int .u8 (a 14), .int .u8 (a 15)]] w fun e w' =>
      e = .returned (.agg #[.int .u64 (hiW a), .int .u64 (loW a), .pointer (some p6)]) ∧ Below w.heap.size w w' := by
  have z6 := fun o1 o2 => ((z.alloc o1).alloc o2).c6
  go_enter Tryd.func28, Tryd.ntmps28
  go_wp2
  go_region_with (first
    | (go_at_call 41; with_reducible refine (be64_any w.heap.size 0 8 16 (a 0) (a 1) (a 2) (a 3) (a 4) (a 5) (a 6) (a 7) _ (by omega) (ha 0) (ha 1) (ha 2) (ha 3) (ha 4) (ha 5) (ha 6) (ha 7) (by simp [go_sem]) (by simp [go_sem]) (by simp [go_sem]) (by simp [go_sem]) (by simp [go_sem]) (by simp [go_sem]) (by simp [go_sem]) (by simp [go_sem]) ).mono ?_; rintro e w' ⟨he, k, rfl⟩; rw [← hiW] at he; subst he)
    | (go_at_call 41; with_reducible refine (be64_any w.heap.size 8 8 8 (a 8) (a 9) (a 10) (a 11) (a 12) (a 13) (a 14) (a 15) _ (by omega) (ha 8) (ha 9) (ha 10) (ha 11) (ha 12) (ha 13) (ha 14) (ha 15) (by simp [go_sem]) (by simp [go_sem]) (by simp [go_sem]) (by simp [go_sem]) (by simp [go_sem]) (by simp [go_sem]) (by simp [go_sem]) (by simp [go_sem]) ).mono ?_; rintro e w' ⟨he, k, rfl⟩; rw [← loW] at he; subst he))
  all_goals
    go_wp2
    refine bodyPost_ret (v := .agg #[.int .u64 (hiW a), .int .u64 (loW a), .pointer (some p6)]) (by simp [results, Tryd.results28, go_sem]) rfl ⟨rfl, ?_⟩
    (repeat' (first | (with_reducible exact Below.refl _ _) | (with_reducible refine Below.alloc ?_ ?_ _) | (with_reducible refine Below.drew ?_) | (with_reducible refine below_dN ?_) | (with_reducible refine Below.setCell ?_ ?_ _) | go_size))
theorem from16_any (a : Nat → Int) (p4 p6 : Addr) (w : World) (z : Zs p4 p6 w) (ha : ∀ i, Byte (a i)) :
    Calls Tryd.prog 28 #[.agg #[.int .u8 (a 0), .int .u8 (a 1), .int .u8 (a 2), .int .u8 (a 3), .int .u8 (a 4), .int .u8 (a 5), .int .u8 (a 6), .int .u8 (a 7), .int .u8 (a 8), .int .u8 (a 9), .int .u8 (a 10), .int .u8 (a 11), .int .u8 (a 12), .int .u8 (a 13), .int .u8 (a 14), .int .u8 (a 15)]] w fun e w' =>
      e = .returned (.agg #[.int .u64 (hiW a), .int .u64 (loW a), .pointer (some p6)]) ∧ Below w.heap.size w w' ∧ Zs p4 p6 w' :=
  (from16_walk a p4 p6 w z ha).mono fun _ _ h => ⟨h.1, h.2, z.below h.2⟩

/-- What stands through the statement that calls three times. -/
abbrev Held (w : World) (la lb : List Value) (w' : World) : Prop :=
  w'.rangeAt w.heap.size 0 la ∧ w'.rangeAt (w.heap.size + 1) 0 lb ∧ Below w.heap.size w w' ∧ w.heap.size + 1 < w'.heap.size

theorem rangeAt_below {W w1 : World} {b o : Nat} {cs : List Value} (h : W.rangeAt b o cs) (hb : Below W.heap.size W w1) : w1.rangeAt b o cs := fun j v hv =>
  (hb.cell (p := ⟨b, o + j, none⟩) (lt_of_cell (h j v hv))).trans (h j v hv)
section
variable {w : World} {la lb : List Value} {p4 p6 : Addr}
theorem Held.z {w' : World} (h : Held w la lb w') (z : Zs p4 p6 w) : Zs p4 p6 w' := z.below h.2.2.1
theorem Held.call {w' w1 : World} (h : Held w la lb w') (hb : Below w'.heap.size w' w1) : Held w la lb w1 :=
  ⟨rangeAt_below h.1 hb, rangeAt_below h.2.1 hb, h.2.2.1.trans (hb.mono (by have := h.2.2.2; omega)), by have := hb.size; have := h.2.2.2; omega⟩
theorem Held.alloc {w' : World} (h : Held w la lb w') (o : Obj) : Held w la lb (w'.alloc o) := Held.call h ((Below.refl _ _).alloc (Nat.le_refl _) _)
theorem Held.start (w : World) (la lb : List Value) : Held w la lb (((w.alloc (.cells la.toArray 37)).alloc (.cells lb.toArray 37)).drew) := by
  refine ⟨fun j v hv => ?_, fun j v hv => ?_, by go_grown, by simp⟩
  · have := cell_of_row (((w.alloc (.cells la.toArray 37)).alloc (.cells lb.toArray 37)).drew) w.heap.size j _ _ _ (heap_alloc2_old w _ _)
    simp only [Nat.zero_add]; rw [this]; simpa using hv
  · have := cell_of_row (((w.alloc (.cells la.toArray 37)).alloc (.cells lb.toArray 37)).drew) (w.heap.size + 1) j _ _ _ (heap_alloc2_new w _ _)
    simp only [Nat.zero_add]; rw [this]; simpa using hv
theorem cell_setCell_off (w : World) (a b : Addr) (v : Value) (h : b.block ≠ a.block) : (w.setCell a v).cell? b = w.cell? b := by
  simp only [World.cell?, heap_setCell_other w a b.block v h]
theorem Held.store {w' : World} (h : Held w la lb w') {g i : Nat} (hg : w.heap.size + 1 < g) (v : Value) : Held w la lb (w'.setCell ⟨g, i, none⟩ v) :=
  ⟨fun j u hv => (cell_setCell_off _ _ _ _ (by show w.heap.size ≠ g; omega)).trans (h.1 j u hv), fun j u hv => (cell_setCell_off _ _ _ _ (by show w.heap.size + 1 ≠ g; omega)).trans (h.2.1 j u hv),
    h.2.2.1.setCell (by show w.heap.size ≤ g; omega) _, by simpa using h.2.2.2⟩
end

theorem blk_later {X w' : World} {g : Nat} {o : Obj} (h : X.heap[g]? = some o) (hb : Below X.heap.size X w') : w'.heap[g]? = some o := (hb.block g (lt_of_heap h)).trans h
theorem Tryd.isize37 : (Tryd.prog.info? 37).map (·.size) = some 16 := by kernel_rfl
set_option maxRecDepth 100000 in
set_option maxHeartbeats 2000000 in
theorem width6_opaque (la lb : List Value) (ah al bh bl : Int) (p4 p6 : Addr) (w : World) (z : Zs p4 p6 w)
    (h1 : Word ah) (h2 : Word al) (h3 : Word bh) (h4 : Word bl) (sa : la.length = 16) (sb : lb.length = 16) (oa : ∀ v ∈ la, v.oneCell' = true) (ob : ∀ v ∈ lb, v.oneCell' = true)
    (ca : ∀ w, Zs p4 p6 w → Calls Tryd.prog 28 #[.agg la.toArray] w fun e w' => e = .returned (.agg #[.int .u64 ah, .int .u64 al, .pointer (some p6)]) ∧ Below w.heap.size w w' ∧ Zs p4 p6 w')
    (cb : ∀ w, Zs p4 p6 w → Calls Tryd.prog 28 #[.agg lb.toArray] w fun e w' => e = .returned (.agg #[.int .u64 bh, .int .u64 bl, .pointer (some p6)]) ∧ Below w.heap.size w w' ∧ Zs p4 p6 w') :
    Calls Tryd.prog 20 #[.agg la.toArray, .agg lb.toArray] w fun e w' =>
      e = .returned (.tuple #[.int .u64 (dhi bh bl ah al), .int .u64 (dlo bl al)]) ∧ Below w.heap.size w w' := by
  have u37 := Tryd.underlying37
  have ia : (Tryd.prog.info? 37).map (·.size) = some la.length := by rw [sa]; exact Tryd.isize37
  have ib : (Tryd.prog.info? 37).map (·.size) = some lb.length := by rw [sb]; exact Tryd.isize37
  have H0 := Held.start w la lb
  go_enter Tryd.func20, Tryd.ntmps20
  go_wp2
  refine wp_region_noPanic ?_
  refine wp_region_held_drew (S := Held w la lb) (by kernel_rfl) H0 (fun hHeld => ?_)
  clear H0
  refine wpAnyH_take (i := 0) (oi := _) (v := .agg la.toArray) rfl (by kernel_rfl) (by kernel_rfl) (by kernel_rfl) (fun _ _ _ h => h) (yieldsIf_load_mid (by rfl) _ _ rfl _ _ rfl la _ (fun _ h => h.1) u37 rfl ia) hHeld ?_
  simp only [Act.put, List.setIfInBounds_toArray, List.set_cons_zero, List.set_cons_succ]
  refine wpAnyH_take (i := 2) (oi := _) (v := .agg lb.toArray) rfl (by kernel_rfl) (by kernel_rfl) (by kernel_rfl) (fun _ _ _ h => h) (yieldsIf_load_mid (by rfl) _ _ rfl _ _ rfl lb _ (fun _ h => h.2.1) u37 rfl ib) hHeld ?_
  simp only [Act.put, List.setIfInBounds_toArray, List.set_cons_zero, List.set_cons_succ]
  refine wpAnyH_ready (rs := [1, 5]) (by kernel_rfl) (by simp) ?_
  refine AllReadyH.cons (o := _) rfl (fun K hK => ?_) ?_
  · go_simp
    refine (ca _ (Held.z hHeld z)).mono ?_
    rintro e w1 ⟨rfl, hb1, -⟩
    refine hK.out _ _ (Held.call hHeld hb1) (fun hHeld => ?_)
    have hHw1 := hHeld
    clear hK K
    try simp only [Act.put, List.setIfInBounds_toArray, List.set_cons_zero, List.set_cons_succ]
    refine wpAnyH_ready (rs := [3, 5]) (by kernel_rfl) (by simp) ?_
    refine AllReadyH.cons (o := _) rfl (fun K hK => ?_) ?_
    · go_simp
      refine (cb _ (Held.z hHeld z)).mono ?_
      rintro e w2 ⟨rfl, hb2, -⟩
      refine hK.out _ _ (Held.call hHeld hb2) (fun hHeld => ?_)
      have hHw2 := hHeld
      clear hK K
      try simp only [Act.put, List.setIfInBounds_toArray, List.set_cons_zero, List.set_cons_succ]
      refine wpAnyH_ready (rs := [4, 5]) (by kernel_rfl) (by simp) ?_
      refine AllReadyH.cons (o := _) rfl (fun K hK => ?_) ?_
      · go_simp
        refine (widthOf_six ah al bh bl p4 p6 _ (Held.z hHeld z) h1 h2 h3 h4).mono ?_
        rintro e w3 ⟨rfl, hb3⟩
        refine hK.out _ _ (Held.call hHeld hb3) (fun hHeld => ?_)
        have hHw3 := hHeld
        clear hK K
        try simp only [Act.put, List.setIfInBounds_toArray, List.set_cons_zero, List.set_cons_succ]
        refine wpAnyH_ready (rs := [5]) (by kernel_rfl) (by simp) ?_
        refine AllReadyH.cons (o := _) rfl (fun K hK => ?_) ?_
        · go_simp
          refine hK.out _ _ (Held.alloc hHeld _) (fun hHeld => ?_)
          skip
          have hB : (w3.alloc (.cells #[.int .u64 0, .int .u64 0] 49)).heap[w3.heap.size]? = some (.cells #[.int .u64 0, .int .u64 0] 49) := heap_alloc_new _ _
          clear hK K
          try simp only [Act.put, List.setIfInBounds_toArray, List.set_cons_zero, List.set_cons_succ]
          refine wpAnyH_ready (rs := [6]) (by kernel_rfl) (by simp) ?_
          refine AllReadyH.cons (o := _) rfl (fun K hK => ?_) ?_
          · have hHg := hHeld.2.2.2
            have c0 := cell_of_row _ _ 0 _ _ _ hB
            have c1 := cell_of_row _ _ 1 _ _ _ hB
            have f0 := frozen_of_row _ _ 0 _ _ hB
            have f1 := frozen_of_row _ _ 1 _ _ hB
            simp at c0 c1 f0 f1
            go_simp
            refine hK.out _ _ (Held.alloc hHw3 _) (fun hHeld => ?_)
            clear hK K
            refine wpAnyH_done (by kernel_rfl) ?_ _
            refine NoPanic.normal ?_
            go_wp2
            go_quiet (fail)
            go_wp2
            go_ret2
            exact ⟨rfl, below_dN (hHeld.2.2.1)⟩
          exact AllReadyH.nil
        exact AllReadyH.nil
      refine AllReadyH.cons (o := _) rfl (fun K hK => ?_) ?_
      · go_simp
        refine hK.out _ _ (Held.alloc hHeld _) (fun hHeld => ?_)
        skip
        have hB : (w2.alloc (.cells #[.int .u64 0, .int .u64 0] 49)).heap[w2.heap.size]? = some (.cells #[.int .u64 0, .int .u64 0] 49) := heap_alloc_new _ _
        clear hK K
        try simp only [Act.put, List.setIfInBounds_toArray, List.set_cons_zero, List.set_cons_succ]
        refine wpAnyH_ready (rs := [4]) (by kernel_rfl) (by simp) ?_
        refine AllReadyH.cons (o := _) rfl (fun K hK => ?_) ?_
        · go_simp
          refine (widthOf_six ah al bh bl p4 p6 _ (Held.z hHeld z) h1 h2 h3 h4).mono ?_
          rintro e w3 ⟨rfl, hb3⟩
          refine hK.out _ _ (Held.call hHeld hb3) (fun hHeld => ?_)
          have hHw3 := hHeld
          have hB := blk_later hB hb3
          clear hK K
          try simp only [Act.put, List.setIfInBounds_toArray, List.set_cons_zero, List.set_cons_succ]
          refine wpAnyH_ready (rs := [6]) (by kernel_rfl) (by simp) ?_
          refine AllReadyH.cons (o := _) rfl (fun K hK => ?_) ?_
          · have hHg := hHeld.2.2.2
            have c0 := cell_of_row _ _ 0 _ _ _ hB
            have c1 := cell_of_row _ _ 1 _ _ _ hB
            have f0 := frozen_of_row _ _ 0 _ _ hB
            have f1 := frozen_of_row _ _ 1 _ _ hB
            simp at c0 c1 f0 f1
            go_simp
            refine hK.out _ _ (Held.store (Held.store hHeld (hHw2.2.2.2) _) (hHw2.2.2.2) _) (fun hHeld => ?_)
            clear hK K
            refine wpAnyH_done (by kernel_rfl) ?_ _
            refine NoPanic.normal ?_
            go_wp2
            go_quiet (fail)
            go_wp2
            go_ret2
            exact ⟨rfl, below_dN (hHeld.2.2.1)⟩
          exact AllReadyH.nil
        exact AllReadyH.nil
      exact AllReadyH.nil
    refine AllReadyH.cons (o := _) rfl (fun K hK => ?_) ?_
    · go_simp
      refine hK.out _ _ (Held.alloc hHeld _) (fun hHeld => ?_)
      skip
      have hB : (w1.alloc (.cells #[.int .u64 0, .int .u64 0] 49)).heap[w1.heap.size]? = some (.cells #[.int .u64 0, .int .u64 0] 49) := heap_alloc_new _ _
      clear hK K
      try simp only [Act.put, List.setIfInBounds_toArray, List.set_cons_zero, List.set_cons_succ]
      refine wpAnyH_ready (rs := [3]) (by kernel_rfl) (by simp) ?_
      refine AllReadyH.cons (o := _) rfl (fun K hK => ?_) ?_
      · go_simp
        refine (cb _ (Held.z hHeld z)).mono ?_
        rintro e w2 ⟨rfl, hb2, -⟩
        refine hK.out _ _ (Held.call hHeld hb2) (fun hHeld => ?_)
        have hHw2 := hHeld
        have hB := blk_later hB hb2
        clear hK K
        try simp only [Act.put, List.setIfInBounds_toArray, List.set_cons_zero, List.set_cons_succ]
        refine wpAnyH_ready (rs := [4]) (by kernel_rfl) (by simp) ?_
        refine AllReadyH.cons (o := _) rfl (fun K hK => ?_) ?_
        · go_simp
          refine (widthOf_six ah al bh bl p4 p6 _ (Held.z hHeld z) h1 h2 h3 h4).mono ?_
          rintro e w3 ⟨rfl, hb3⟩
          refine hK.out _ _ (Held.call hHeld hb3) (fun hHeld => ?_)
          have hHw3 := hHeld
          have hB := blk_later hB hb3
          clear hK K
          try simp only [Act.put, List.setIfInBounds_toArray, List.set_cons_zero, List.set_cons_succ]
          refine wpAnyH_ready (rs := [6]) (by kernel_rfl) (by simp) ?_
          refine AllReadyH.cons (o := _) rfl (fun K hK => ?_) ?_
          · have hHg := hHeld.2.2.2
            have c0 := cell_of_row _ _ 0 _ _ _ hB
            have c1 := cell_of_row _ _ 1 _ _ _ hB
            have f0 := frozen_of_row _ _ 0 _ _ hB
            have f1 := frozen_of_row _ _ 1 _ _ hB
            simp at c0 c1 f0 f1
            go_simp
            refine hK.out _ _ (Held.store (Held.store hHeld (hHw1.2.2.2) _) (hHw1.2.2.2) _) (fun hHeld => ?_)
            clear hK K
            refine wpAnyH_done (by kernel_rfl) ?_ _
            refine NoPanic.normal ?_
            go_wp2
            go_quiet (fail)
            go_wp2
            go_ret2
            exact ⟨rfl, below_dN (hHeld.2.2.1)⟩
          exact AllReadyH.nil
        exact AllReadyH.nil
      exact AllReadyH.nil
    exact AllReadyH.nil
  refine AllReadyH.cons (o := _) rfl (fun K hK => ?_) ?_
  · go_simp
    refine hK.out _ _ (Held.alloc hHeld _) (fun hHeld => ?_)
    skip
    have hB : ((((w.alloc (.cells la.toArray 37)).alloc (.cells lb.toArray 37)).drew).alloc (.cells #[.int .u64 0, .int .u64 0] 49)).heap[(((w.alloc (.cells la.toArray 37)).alloc (.cells lb.toArray 37)).drew).heap.size]? = some (.cells #[.int .u64 0, .int .u64 0] 49) := heap_alloc_new _ _
    clear hK K
    try simp only [Act.put, List.setIfInBounds_toArray, List.set_cons_zero, List.set_cons_succ]
    refine wpAnyH_ready (rs := [1]) (by kernel_rfl) (by simp) ?_
    refine AllReadyH.cons (o := _) rfl (fun K hK => ?_) ?_
    · go_simp
      refine (ca _ (Held.z hHeld z)).mono ?_
      rintro e w1 ⟨rfl, hb1, -⟩
      refine hK.out _ _ (Held.call hHeld hb1) (fun hHeld => ?_)
      have hHw1 := hHeld
      have hB := blk_later hB hb1
      clear hK K
      try simp only [Act.put, List.setIfInBounds_toArray, List.set_cons_zero, List.set_cons_succ]
      refine wpAnyH_ready (rs := [3]) (by kernel_rfl) (by simp) ?_
      refine AllReadyH.cons (o := _) rfl (fun K hK => ?_) ?_
      · go_simp
        refine (cb _ (Held.z hHeld z)).mono ?_
        rintro e w2 ⟨rfl, hb2, -⟩
        refine hK.out _ _ (Held.call hHeld hb2) (fun hHeld => ?_)
        have hHw2 := hHeld
        have hB := blk_later hB hb2
        clear hK K
        try simp only [Act.put, List.setIfInBounds_toArray, List.set_cons_zero, List.set_cons_succ]
        refine wpAnyH_ready (rs := [4]) (by kernel_rfl) (by simp) ?_
        refine AllReadyH.cons (o := _) rfl (fun K hK => ?_) ?_
        · go_simp
          refine (widthOf_six ah al bh bl p4 p6 _ (Held.z hHeld z) h1 h2 h3 h4).mono ?_
          rintro e w3 ⟨rfl, hb3⟩
          refine hK.out _ _ (Held.call hHeld hb3) (fun hHeld => ?_)
          have hHw3 := hHeld
          have hB := blk_later hB hb3
          clear hK K
          try simp only [Act.put, List.setIfInBounds_toArray, List.set_cons_zero, List.set_cons_succ]
          refine wpAnyH_ready (rs := [6]) (by kernel_rfl) (by simp) ?_
          refine AllReadyH.cons (o := _) rfl (fun K hK => ?_) ?_
          · have hHg := hHeld.2.2.2
            have c0 := cell_of_row _ _ 0 _ _ _ hB
            have c1 := cell_of_row _ _ 1 _ _ _ hB
            have f0 := frozen_of_row _ _ 0 _ _ hB
            have f1 := frozen_of_row _ _ 1 _ _ hB
            simp at c0 c1 f0 f1
            go_simp
            refine hK.out _ _ (Held.store (Held.store hHeld (by simp) _) (by simp) _) (fun hHeld => ?_)
            clear hK K
            refine wpAnyH_done (by kernel_rfl) ?_ _
            refine NoPanic.normal ?_
            go_wp2
            go_quiet (fail)
            go_wp2
            go_ret2
            exact ⟨rfl, below_dN (hHeld.2.2.1)⟩
          exact AllReadyH.nil
        exact AllReadyH.nil
      exact AllReadyH.nil
    exact AllReadyH.nil
  exact AllReadyH.nil

/-- ZZwidthOf6. -/
theorem width6_any (a b : Nat → Int) (p4 p6 : Addr) (w : World) (z : Zs p4 p6 w) (ha : ∀ i, Byte (a i)) (hb : ∀ i, Byte (b i)) :
    Calls Tryd.prog 20 #[.agg #[.int .u8 (a 0), .int .u8 (a 1), .int .u8 (a 2), .int .u8 (a 3), .int .u8 (a 4), .int .u8 (a 5), .int .u8 (a 6), .int .u8 (a 7), .int .u8 (a 8), .int .u8 (a 9), .int .u8 (a 10), .int .u8 (a 11), .int .u8 (a 12), .int .u8 (a 13), .int .u8 (a 14), .int .u8 (a 15)], .agg #[.int .u8 (b 0), .int .u8 (b 1), .int .u8 (b 2), .int .u8 (b 3), .int .u8 (b 4), .int .u8 (b 5), .int .u8 (b 6), .int .u8 (b 7), .int .u8 (b 8), .int .u8 (b 9), .int .u8 (b 10), .int .u8 (b 11), .int .u8 (b 12), .int .u8 (b 13), .int .u8 (b 14), .int .u8 (b 15)]] w fun e w' =>
      e = .returned (.tuple #[.int .u64 (dhi (hiW b) (loW b) (hiW a) (loW a)), .int .u64 (dlo (loW b) (loW a))]) ∧ Below w.heap.size w w' :=
  width6_opaque [.int .u8 (a 0), .int .u8 (a 1), .int .u8 (a 2), .int .u8 (a 3), .int .u8 (a 4), .int .u8 (a 5), .int .u8 (a 6), .int .u8 (a 7), .int .u8 (a 8), .int .u8 (a 9), .int .u8 (a 10), .int .u8 (a 11), .int .u8 (a 12), .int .u8 (a 13), .int .u8 (a 14), .int .u8 (a 15)] [.int .u8 (b 0), .int .u8 (b 1), .int .u8 (b 2), .int .u8 (b 3), .int .u8 (b 4), .int .u8 (b 5), .int .u8 (b 6), .int .u8 (b 7), .int .u8 (b 8), .int .u8 (b 9), .int .u8 (b 10), .int .u8 (b 11), .int .u8 (b 12), .int .u8 (b 13), .int .u8 (b 14), .int .u8 (b 15)] _ _ _ _ p4 p6 w z (hiW_word a ha) (loW_word a ha) (hiW_word b hb) (loW_word b hb) rfl rfl (by simp [Value.oneCell']) (by simp [Value.oneCell'])
    (fun w z => from16_any a p4 p6 w z ha) (fun w z => from16_any b p4 p6 w z hb)

end Go.Proofs.Qxb6608729aDoor
