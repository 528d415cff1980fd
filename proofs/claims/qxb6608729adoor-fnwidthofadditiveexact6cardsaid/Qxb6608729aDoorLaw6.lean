/-
  The walk of the law FnWidthOfAdditiveExact6, its three arrays told as lists of cells.
-/
import Derived.Test.Qxb6608729aDoorSub
namespace Go.Proofs.Qxb6608729aDoor
set_option linter.unusedSimpArgs false
set_option linter.unusedVariables false
open Go.RowKit Go.Stop

/-- The load of a long array in a plain region, guarded or not. -/
theorem load_g {P : Program} {ops : Array Oper} {rest : List Oper} {op : Oper} {a : Act} {w : World} {Q : Exit → Act → World → Prop} (hgd : Region.wanted op (yielded ops a.tmps) = true) (ty : TypeId) (x : Operand) (ho : op.op = .load ty x)
    (b o : Nat) (hx : a.eval x = .pointer (some ⟨b, o, none⟩)) (cs : List Value) (d : TypeDesc) (hc : w.rangeAt b o cs)
    (hu : P.underlying ty = some d) (hd : d.isRow = true) (hi : (P.info? ty).map (·.size) = some cs.length)
    (h : wpList P ops Q rest (a.put op.dst (.agg cs.toArray)) w) : wpList P ops Q (op :: rest) a w :=
  wpList_step fun _ hK => by rw [if_pos hgd]; exact wp_load_mid ty x ho b o hx cs d hc hu hd hi (hK _ _ h)

/-- The three arrays stand; nothing old has turned. -/
def Held3 (w : World) (la lb lc : List Value) (w' : World) : Prop :=
  w'.rangeAt w.heap.size 0 la ∧ w'.rangeAt (w.heap.size + 1) 0 lb ∧ w'.rangeAt (w.heap.size + 1 + 1) 0 lc ∧ Below w.heap.size w w' ∧ w.heap.size ≤ w'.heap.size
section
variable {w : World} {la lb lc : List Value}
theorem Held3.a {w' : World} (h : Held3 w la lb lc w') : w'.rangeAt w.heap.size 0 la := h.1
theorem Held3.b {w' : World} (h : Held3 w la lb lc w') : w'.rangeAt (w.heap.size + 1) 0 lb := h.2.1
theorem Held3.c {w' : World} (h : Held3 w la lb lc w') : w'.rangeAt (w.heap.size + 1 + 1) 0 lc := h.2.2.1
theorem Held3.below {w' : World} (h : Held3 w la lb lc w') : Below w.heap.size w w' := h.2.2.2.1
theorem Held3.call {w' w1 : World} (h : Held3 w la lb lc w') (hb : Below w'.heap.size w' w1) : Held3 w la lb lc w1 :=
  ⟨rangeAt_below h.1 hb, rangeAt_below h.2.1 hb, rangeAt_below h.2.2.1 hb, h.2.2.2.1.trans (hb.mono h.2.2.2.2), Nat.le_trans h.2.2.2.2 hb.size⟩
theorem rangeAt_block {W : World} {g : Nat} {l : List Value} {t : TypeId} (h : W.heap[g]? = some (.cells l.toArray t)) : W.rangeAt g 0 l := fun j v hv => by
  have := cell_of_row W g j _ _ _ h
  simp only [Nat.zero_add]; rw [this]; simpa using hv
theorem Held3.start (w : World) (la lb lc : List Value) : Held3 w la lb lc (((w.alloc (.cells la.toArray 37)).alloc (.cells lb.toArray 37)).alloc (.cells lc.toArray 37)) := by
  have h12 := (Below.refl ((w.alloc (.cells la.toArray 37)).alloc (.cells lb.toArray 37)).heap.size ((w.alloc (.cells la.toArray 37)).alloc (.cells lb.toArray 37))).alloc (Nat.le_refl _) (.cells lc.toArray 37)
  refine ⟨rangeAt_below (rangeAt_block (heap_alloc2_old w _ _)) h12, rangeAt_below (rangeAt_block (heap_alloc2_new w _ _)) h12, rangeAt_block (t := 37) ?_, by go_grown, by simp; omega⟩
  have := heap_alloc_new ((w.alloc (.cells la.toArray 37)).alloc (.cells lb.toArray 37)) (.cells lc.toArray 37)
  simpa using this
end

set_option maxRecDepth 100000 in
set_option maxHeartbeats 1000000 in
theorem law6_no1 (la lb lc : List Value) (w : World) (sa : la.length = 16) (sb : lb.length = 16)
    (c1 : ∀ w, Calls Tryd.prog 19 #[.agg la.toArray, .agg lb.toArray] w fun e w' => e = .returned (.bool false) ∧ Below w.heap.size w w') :
    Calls Tryd.prog 6 #[.agg la.toArray, .agg lb.toArray, .agg lc.toArray] w fun e w' => e = .returned (.bool true) ∧ Below w.heap.size w w' := by
  have u37 := Tryd.underlying37
  have ia : (Tryd.prog.info? 37).map (·.size) = some la.length := by rw [sa]; exact Tryd.isize37
  have ib : (Tryd.prog.info? 37).map (·.size) = some lb.length := by rw [sb]; exact Tryd.isize37
  have H0 := Held3.start w la lb lc
  go_enter Tryd.func6, Tryd.ntmps6
  go_wp2_with (first | (go_at_call 19; refine (c1 _).mono ?_; rintro e w1 ⟨rfl, hb1⟩) | (refine load_g (by rfl) 37 _ rfl _ _ rfl la _ (Held3.a H0) u37 rfl ia ?_) | (refine load_g (by rfl) 37 _ rfl _ _ rfl lb _ (Held3.b H0) u37 rfl ib ?_))
  go_ret
  exact ⟨rfl, (Held3.call H0 hb1).below⟩

set_option maxRecDepth 100000 in
set_option maxHeartbeats 1000000 in
theorem law6_no2 (la lb lc : List Value) (w : World) (sa : la.length = 16) (sb : lb.length = 16) (sc : lc.length = 16)
    (c1 : ∀ w, Calls Tryd.prog 19 #[.agg la.toArray, .agg lb.toArray] w fun e w' => e = .returned (.bool true) ∧ Below w.heap.size w w')
    (c2 : ∀ w, Calls Tryd.prog 19 #[.agg lb.toArray, .agg lc.toArray] w fun e w' => e = .returned (.bool false) ∧ Below w.heap.size w w') :
    Calls Tryd.prog 6 #[.agg la.toArray, .agg lb.toArray, .agg lc.toArray] w fun e w' => e = .returned (.bool true) ∧ Below w.heap.size w w' := by
  have u37 := Tryd.underlying37
  have ia : (Tryd.prog.info? 37).map (·.size) = some la.length := by rw [sa]; exact Tryd.isize37
  have ib : (Tryd.prog.info? 37).map (·.size) = some lb.length := by rw [sb]; exact Tryd.isize37
  have ic : (Tryd.prog.info? 37).map (·.size) = some lc.length := by rw [sc]; exact Tryd.isize37
  have H0 := Held3.start w la lb lc
  go_enter Tryd.func6, Tryd.ntmps6
  go_wp2_with (first
    | (go_at_call_of 19 la; refine (c1 _).mono ?_; rintro e w1 ⟨rfl, hb1⟩; have H1 := Held3.call H0 hb1)
    | (go_at_call_of 19 lc; refine (c2 _).mono ?_; rintro e w2 ⟨rfl, hb2⟩; have H2 := Held3.call H1 hb2)
    | (refine load_g (by rfl) 37 _ rfl _ _ rfl la _ (Held3.a (by assumption)) u37 rfl ia ?_) | (refine load_g (by rfl) 37 _ rfl _ _ rfl lb _ (Held3.b (by assumption)) u37 rfl ib ?_) | (refine load_g (by rfl) 37 _ rfl _ _ rfl lc _ (Held3.c (by assumption)) u37 rfl ic ?_))
  go_ret
  exact ⟨rfl, H2.below⟩

set_option maxRecDepth 100000 in
set_option maxHeartbeats 2000000 in
theorem law6_yes (la lb lc : List Value) (p4 p6 : Addr) (w : World) (z : Zs p4 p6 w) (sa : la.length = 16) (sb : lb.length = 16) (sc : lc.length = 16) (h1 l1 h2 l2 h3 l3 : Int)
    (c1 : ∀ w, Calls Tryd.prog 19 #[.agg la.toArray, .agg lb.toArray] w fun e w' => e = .returned (.bool true) ∧ Below w.heap.size w w')
    (c2 : ∀ w, Calls Tryd.prog 19 #[.agg lb.toArray, .agg lc.toArray] w fun e w' => e = .returned (.bool true) ∧ Below w.heap.size w w')
    (c3 : ∀ w, Zs p4 p6 w → Calls Tryd.prog 20 #[.agg la.toArray, .agg lc.toArray] w fun e w' => e = .returned (.tuple #[.int .u64 h1, .int .u64 l1]) ∧ Below w.heap.size w w')
    (c4 : ∀ w, Zs p4 p6 w → Calls Tryd.prog 20 #[.agg la.toArray, .agg lb.toArray] w fun e w' => e = .returned (.tuple #[.int .u64 h2, .int .u64 l2]) ∧ Below w.heap.size w w')
    (c5 : ∀ w, Zs p4 p6 w → Calls Tryd.prog 20 #[.agg lb.toArray, .agg lc.toArray] w fun e w' => e = .returned (.tuple #[.int .u64 h3, .int .u64 l3]) ∧ Below w.heap.size w w')
    (c6 : ∀ w, Calls Tryd.prog 21 #[.agg lb.toArray, .agg la.toArray] w fun e w' => e = .returned (.tuple #[.int .u64 h2, .int .u64 l2]) ∧ Below w.heap.size w w')
    (eL : IntKind.u64.wrap (l2 + l3) = l1) (eC : l1 < l2 → IntKind.u64.wrap (IntKind.u64.wrap (h2 + h3) + 1) = h1) (eN : ¬ l1 < l2 → IntKind.u64.wrap (h2 + h3) = h1) (eW : IntKind.u64.wrap h1 = h1) :
    Calls Tryd.prog 6 #[.agg la.toArray, .agg lb.toArray, .agg lc.toArray] w fun e w' => e = .returned (.bool true) ∧ Below w.heap.size w w' := by
  have u37 := Tryd.underlying37
  have ia : (Tryd.prog.info? 37).map (·.size) = some la.length := by rw [sa]; exact Tryd.isize37
  have ib : (Tryd.prog.info? 37).map (·.size) = some lb.length := by rw [sb]; exact Tryd.isize37
  have ic : (Tryd.prog.info? 37).map (·.size) = some lc.length := by rw [sc]; exact Tryd.isize37
  have H0 := Held3.start w la lb lc
  by_cases hc : l1 < l2
  · have eH := eC hc
    clear eC eN
    go_enter Tryd.func6, Tryd.ntmps6
    go_wp2_with (first
      | (go_at_call_of 19 la; refine (c1 _).mono ?_; rintro e w1 ⟨rfl, hb1⟩; have H1 := Held3.call H0 hb1)
      | (go_at_call_of 19 lc; refine (c2 _).mono ?_; rintro e w2 ⟨rfl, hb2⟩; have H2 := Held3.call H1 hb2)
      | (go_at_call 20; with_reducible refine (c3 _ (z.below H2.below)).mono ?_; rintro e w3 ⟨rfl, hb3⟩; have H3 := Held3.call H2 hb3)
      | (go_at_call 20; with_reducible refine (c4 _ (z.below H3.below)).mono ?_; rintro e w4 ⟨rfl, hb4⟩; have H4 := Held3.call H3 hb4)
      | (go_at_call 20; with_reducible refine (c5 _ (z.below H4.below)).mono ?_; rintro e w5 ⟨rfl, hb5⟩; have H5 := Held3.call H4 hb5)
      | (go_at_call 21; refine (c6 _).mono ?_; rintro e w6 ⟨rfl, hb6⟩; have H6 := Held3.call H5 hb6)
      | (refine load_g (by rfl) 37 _ rfl _ _ rfl la _ (Held3.a (by assumption)) u37 rfl ia ?_) | (refine load_g (by rfl) 37 _ rfl _ _ rfl lb _ (Held3.b (by assumption)) u37 rfl ib ?_) | (refine load_g (by rfl) 37 _ rfl _ _ rfl lc _ (Held3.c (by assumption)) u37 rfl ic ?_))
    go_ret
    exact ⟨rfl, H6.below⟩
  · have eH := eN hc
    clear eC eN
    go_enter Tryd.func6, Tryd.ntmps6
    go_wp2_with (first
      | (go_at_call_of 19 la; refine (c1 _).mono ?_; rintro e w1 ⟨rfl, hb1⟩; have H1 := Held3.call H0 hb1)
      | (go_at_call_of 19 lc; refine (c2 _).mono ?_; rintro e w2 ⟨rfl, hb2⟩; have H2 := Held3.call H1 hb2)
      | (go_at_call 20; with_reducible refine (c3 _ (z.below H2.below)).mono ?_; rintro e w3 ⟨rfl, hb3⟩; have H3 := Held3.call H2 hb3)
      | (go_at_call 20; with_reducible refine (c4 _ (z.below H3.below)).mono ?_; rintro e w4 ⟨rfl, hb4⟩; have H4 := Held3.call H3 hb4)
      | (go_at_call 20; with_reducible refine (c5 _ (z.below H4.below)).mono ?_; rintro e w5 ⟨rfl, hb5⟩; have H5 := Held3.call H4 hb5)
      | (go_at_call 21; refine (c6 _).mono ?_; rintro e w6 ⟨rfl, hb6⟩; have H6 := Held3.call H5 hb6)
      | (refine load_g (by rfl) 37 _ rfl _ _ rfl la _ (Held3.a (by assumption)) u37 rfl ia ?_) | (refine load_g (by rfl) 37 _ rfl _ _ rfl lb _ (Held3.b (by assumption)) u37 rfl ib ?_) | (refine load_g (by rfl) 37 _ rfl _ _ rfl lc _ (Held3.c (by assumption)) u37 rfl ic ?_))
    go_ret
    exact ⟨rfl, H6.below⟩
end Go.Proofs.Qxb6608729aDoor
