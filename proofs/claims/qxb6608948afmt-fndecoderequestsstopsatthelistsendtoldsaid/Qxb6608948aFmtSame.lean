/-
  wb1SameRequest at two requests that were read from the same bytes.
-/
import Derived.Test.Qxb6608948aFmtSml
import Derived.Stop.BytesEq
namespace Go.Proofs.Qxb6608948aFmt
set_option linter.unusedSimpArgs false
set_option linter.unusedVariables false
open Go.RowKit Go.Stop

theorem take_op {P : Program} {md : Region.Mode} {ops : Array Oper} {Q : Exit → Act → World → Prop} {S : World → Prop} (i d : Nat) {oi : Oper} {v : Value} {fuel : Nat} {listed : Array Bool} {a : Act} {w : World} (hi : ops[i]? = some oi) (hd : oi.dst = some d)
    (hs : Region.noSelect ops = true) (hf : Region.free md ops listed i = true) (hr : (Region.ready md ops listed).contains i = true)
    (hQ : ∀ c a w, Q (.panic c) (a.put (some d) v) w → Q (.panic c) a w) (hy : YieldsIf P ops S oi v a) (hS : S w)
    (h : wpAnyH P md ops Q S fuel (listed.setIfInBounds i true) (a.put (some d) v) w) : wpAnyH P md ops Q S (fuel + 1) listed a w :=
  wpAnyH_take hi hs hf hr (by rw [hd]; exact hQ) hy hS (by rw [hd]; exact h)

theorem neq_rows (f : Nat → UInt8) (p : Nat) (W : World) : (binOp .neq 44 (.agg (brow f p 32).toArray) (.agg (brow f p 32).toArray)).run Tryf.prog W = .ok (.bool false) W := by
  have e : brow f p 32 = (((List.range 32).map fun m => f (p + m)).map Go.Extern.Stop.cell) := by
    unfold brow
    rw [List.map_map]
    rfl
  rw [e, run_neq_struct, run_equalIn_bytes W 9998 44 5 32 Tryf.underlying44 Tryf.underlying5 Tryf.sizeOf5 _ _ (by simp) (by simp)]
  simp
theorem range_of {w : World} {b g k c p : Nat} {f : Nat → UInt8} (h : w.ownsRow b 44 32 (.slice (some ⟨g, 0, none⟩) k c) k (brow f p (32 * k))) {j : Nat} (hj : j < k) : w.rangeAt g (j * 32) (brow f (p + 32 * j) 32) := fun m v hv => by
  obtain ⟨hm, rfl⟩ := brow_at hv
  rw [h.cellAt (j * 32 + m) (by omega)]
  have hlt : j * 32 + m < 32 * k := by omega
  rw [brow, List.getElem?_map, List.getElem?_range hlt]
  show some (Value.int .u8 ((f (p + (j * 32 + m))).toNat : Int)) = _
  rw [show p + (j * 32 + m) = p + 32 * j + m by omega]
theorem range_below {w w' : World} {g o : Nat} {la : List Value} (h : w.rangeAt g o la) (hb : Below w.heap.size w w') : w'.rangeAt g o la := fun m v hv =>
  (hb.cell (p := ⟨g, o + m, none⟩) (World.block_lt_of_cell? w _ (h m v hv))).trans (h m v hv)

set_option maxRecDepth 8000 in
set_option maxHeartbeats 4000000 in
theorem same_10 (c q l c1 c2 k y1 y2 b1 b2 p : Nat) (a1 a2 : Option Addr) (x1 x2 : Option Addr) (G : Nat → Int) (f : Nat → UInt8) (w : World) (hl : l ≤ 1048576) (hk : k ≤ 1048576) (r1 : Rd a1 l G w) (r2 : Rd a2 l G w)
    (o1 : w.ownsRow b1 44 32 (.slice x1 k y1) k (brow f p (32 * k))) (o2 : w.ownsRow b2 44 32 (.slice x2 k y2) k (brow f p (32 * k))) :
    Calls Tryf.prog 10 #[.agg #[.int .u64 (c : Int), .int .u64 (q : Int), .slice a1 l c1, .slice x1 k y1], .agg #[.int .u64 (c : Int), .int .u64 (q : Int), .slice a2 l c2, .slice x2 k y2]] w fun e w' => e = .returned (.bool true) ∧ Below w.heap.size w w' := by
  have hb0 : Below w.heap.size w ((w.alloc (.cells #[.int .u64 (c : Int), .int .u64 (q : Int), .slice a1 l c1, .slice x1 k y1] 38)).alloc (.cells #[.int .u64 (c : Int), .int .u64 (q : Int), .slice a2 l c2, .slice x2 k y2] 38)) := by go_grown
  have h12 := equal_any a1 a2 c1 c2 l G G _ (by omega) (r1.below hb0) (r2.below hb0) (fun _ _ => rfl)
  obtain ⟨W0, hW0⟩ : ∃ W0, W0 = ((w.alloc (.cells #[.int .u64 (c : Int), .int .u64 (q : Int), .slice a1 l c1, .slice x1 k y1] 38)).alloc (.cells #[.int .u64 (c : Int), .int .u64 (q : Int), .slice a2 l c2, .slice x2 k y2] 38)) := ⟨_, rfl⟩
  have hA : W0.heap[w.heap.size]? = some (.cells #[.int .u64 (c : Int), .int .u64 (q : Int), .slice a1 l c1, .slice x1 k y1] 38 (0, 0)) := by
    rw [hW0, Below.heap_alloc _ _ _ (by simp)]; exact heap_alloc_new w _
  have hB : W0.heap[w.heap.size + 1]? = some (.cells #[.int .u64 (c : Int), .int .u64 (q : Int), .slice a2 l c2, .slice x2 k y2] 38 (0, 0)) := by
    rw [hW0]
    have := heap_alloc_new (w.alloc (.cells #[.int .u64 (c : Int), .int .u64 (q : Int), .slice a1 l c1, .slice x1 k y1] 38)) (.cells #[.int .u64 (c : Int), .int .u64 (q : Int), .slice a2 l c2, .slice x2 k y2] 38)
    rwa [show (w.alloc (.cells #[.int .u64 (c : Int), .int .u64 (q : Int), .slice a1 l c1, .slice x1 k y1] 38)).heap.size = w.heap.size + 1 by simp] at this
  have hs0 : W0.heap.size = w.heap.size + 1 + 1 := by rw [hW0]; simp
  rw [← hW0] at hb0
  have h12' : Calls Tryf.prog 12 #[.slice a1 l c1, .slice a2 l c2] ((w.alloc (.cells #[.int .u64 (c : Int), .int .u64 (q : Int), .slice a1 l c1, .slice x1 k y1] 38)).alloc (.cells #[.int .u64 (c : Int), .int .u64 (q : Int), .slice a2 l c2, .slice x2 k y2] 38)) fun e w' => e = .returned (.bool true) ∧ Below W0.heap.size W0 w' := by rw [hW0]; exact h12
  clear h12 hW0
  have hk' : (k : Int) ≤ 1048576 := by omega
  go_enter Tryf.func10, Tryf.ntmps10
  go_wp2_with (go_at_call 12; refine h12'.mono ?_; rintro e w3 ⟨rfl, hb3⟩; have ka : w3.cell? ⟨w.heap.size, 3, none⟩ = some (.slice x1 k y1) := (hb3.cell (p := ⟨w.heap.size, 3, none⟩) (by show w.heap.size < W0.heap.size; omega)).trans (by rw [cell_of_row _ _ _ _ _ _ hA]; rfl); have kb : w3.cell? ⟨w.heap.size + 1, 3, none⟩ = some (.slice x2 k y2) := (hb3.cell (p := ⟨w.heap.size + 1, 3, none⟩) (by show w.heap.size + 1 < W0.heap.size; omega)).trans (by rw [cell_of_row _ _ _ _ _ _ hB]; rfl))
  have hbw : Below w.heap.size w w3 := hb0.trans (hb3.mono (by omega))
  obtain ⟨A1, hA1⟩ : ∃ A1, A1 = w.heap.size := ⟨_, rfl⟩
  obtain ⟨A2, hA2⟩ : ∃ A2, A2 = w.heap.size + 1 := ⟨_, rfl⟩
  have hA12 : Hid (A1 < w3.heap.size ∧ A2 < w3.heap.size) := ⟨by have := hb3.size; omega, by have := hb3.size; omega⟩
  rw [← hA2] at kb ⊢
  rw [← hA1] at ka ⊢
  clear hA1 hA2 hA hB hb3 hs0 hb0 h12'
  go_loopw [5] (fun i wr => ∃ j : Nat, j ≤ k ∧ i = .int .i64 j ∧ Below w3.heap.size w3 wr) (fun i _ => k - (intOf i).toNat)
  case atStart => exact ⟨0, by omega, rfl, Below.refl _ _⟩
  case round =>
    obtain ⟨j, hj, rfl, hbr⟩ := hrel
    have ka2 := (hbr.cell (p := ⟨A1, 3, none⟩) hA12.out.1).trans ka
    have kb2 := (hbr.cell (p := ⟨A2, 3, none⟩) hA12.out.2).trans kb
    by_cases hjk : j < k
    · have hjk' : (j : Int) < (k : Int) := by omega
      obtain ⟨g1, rfl⟩ : ∃ g, x1 = some ⟨g, 0, none⟩ := by
        rcases o1.2 with ⟨h1, h2⟩ | ⟨g, cap, cur, h1, _⟩
        · omega
        · injection h1 with h1; exact ⟨g, h1⟩
      obtain ⟨g2, rfl⟩ : ∃ g, x2 = some ⟨g, 0, none⟩ := by
        rcases o2.2 with ⟨h1, h2⟩ | ⟨g, cap, cur, h1, _⟩
        · omega
        · injection h1 with h1; exact ⟨g, h1⟩
      have hbw3 : Below w.heap.size w wr := hbw.trans (hbr.mono hbw.size)
      have t1 := range_below (range_of o1 hjk) hbw3
      have t2 := range_below (range_of o2 hjk) hbw3
      have hnq := neq_rows f (p + 32 * j)
      obtain ⟨la, hla⟩ : ∃ la, la = brow f (p + 32 * j) 32 := ⟨_, rfl⟩
      have hia : (Tryf.prog.info? 44).map (·.size) = some la.length := by rw [hla, brow_len]; kernel_rfl
      rw [← hla] at t1 t2 hnq
      clear hla
      have HS : Hid (wr.drew.cell? ⟨A1, 3, none⟩ = some (.slice (some ⟨g1, 0, none⟩) k y1) ∧ wr.drew.cell? ⟨A2, 3, none⟩ = some (.slice (some ⟨g2, 0, none⟩) k y2) ∧ wr.drew.rangeAt g1 (j * 32) la ∧ wr.drew.rangeAt g2 (j * 32) la) := ⟨ka2, kb2, t1, t2⟩
      clear t1 t2
      go_wp2
      refine wp_region_noPanic ?_
      refine wp_region_held_drew (S := fun W => W.cell? ⟨A1, 3, none⟩ = some (.slice (some ⟨g1, 0, none⟩) k y1) ∧ W.cell? ⟨A2, 3, none⟩ = some (.slice (some ⟨g2, 0, none⟩) k y2) ∧ W.rangeAt g1 (j * 32) la ∧ W.rangeAt g2 (j * 32) la) (by kernel_rfl) HS.out (fun hHeld => ?_)
      refine take_op 0 38 (v := ?vs0) rfl rfl (by kernel_rfl) (by kernel_rfl) (by kernel_rfl) (fun _ _ _ h => h) (Or.inl ⟨by rfl, ?hys0⟩) (by assumption) ?rests0
      case hys0 => (intro w hSw; (try dsimp only at hSw); go_simp; try (with_reducible rfl))
      try simp only [Act.put, List.setIfInBounds_toArray, List.set_cons_zero, List.set_cons_succ]
      refine take_op 1 39 (v := ?vs1) rfl rfl (by kernel_rfl) (by kernel_rfl) (by kernel_rfl) (fun _ _ _ h => h) (Or.inl ⟨by rfl, ?hys1⟩) (by assumption) ?rests1
      case hys1 => (intro w hSw; (try dsimp only at hSw); go_simp; try (with_reducible rfl))
      try simp only [Act.put, List.setIfInBounds_toArray, List.set_cons_zero, List.set_cons_succ]
      refine take_op 2 40 (v := ?vs2) rfl rfl (by kernel_rfl) (by kernel_rfl) (by kernel_rfl) (fun _ _ _ h => h) (Or.inl ⟨by rfl, ?hys2⟩) (by assumption) ?rests2
      case hys2 => (intro w hSw; (try dsimp only at hSw); go_simp; try (with_reducible rfl))
      try simp only [Act.put, List.setIfInBounds_toArray, List.set_cons_zero, List.set_cons_succ]
      refine take_op 3 41 (v := ?vs3) rfl rfl (by kernel_rfl) (by kernel_rfl) (by kernel_rfl) (fun _ _ _ h => h) (Or.inl ⟨by rfl, ?hys3⟩) (by assumption) ?rests3
      case hys3 => (intro w hSw; (try dsimp only at hSw); go_simp; try (with_reducible rfl))
      try simp only [Act.put, List.setIfInBounds_toArray, List.set_cons_zero, List.set_cons_succ]
      refine take_op 4 42 (v := .agg la.toArray) rfl rfl (by kernel_rfl) (by kernel_rfl) (by kernel_rfl) (fun _ _ _ h => h) (yieldsIf_load_mid (by rfl) _ _ rfl _ _ rfl la _ (fun _ h => h.2.2.1) Tryf.underlying44 rfl hia) (by assumption) ?_
      try simp only [Act.put, List.setIfInBounds_toArray, List.set_cons_zero, List.set_cons_succ]
      refine take_op 5 43 (v := ?vs5) rfl rfl (by kernel_rfl) (by kernel_rfl) (by kernel_rfl) (fun _ _ _ h => h) (Or.inl ⟨by rfl, ?hys5⟩) (by assumption) ?rests5
      case hys5 => (intro w hSw; (try dsimp only at hSw); go_simp; try (with_reducible rfl))
      try simp only [Act.put, List.setIfInBounds_toArray, List.set_cons_zero, List.set_cons_succ]
      refine take_op 6 44 (v := ?vs6) rfl rfl (by kernel_rfl) (by kernel_rfl) (by kernel_rfl) (fun _ _ _ h => h) (Or.inl ⟨by rfl, ?hys6⟩) (by assumption) ?rests6
      case hys6 => (intro w hSw; (try dsimp only at hSw); go_simp; try (with_reducible rfl))
      try simp only [Act.put, List.setIfInBounds_toArray, List.set_cons_zero, List.set_cons_succ]
      refine take_op 7 45 (v := ?vs7) rfl rfl (by kernel_rfl) (by kernel_rfl) (by kernel_rfl) (fun _ _ _ h => h) (Or.inl ⟨by rfl, ?hys7⟩) (by assumption) ?rests7
      case hys7 => (intro w hSw; (try dsimp only at hSw); go_simp; try (with_reducible rfl))
      try simp only [Act.put, List.setIfInBounds_toArray, List.set_cons_zero, List.set_cons_succ]
      refine take_op 8 46 (v := ?vs8) rfl rfl (by kernel_rfl) (by kernel_rfl) (by kernel_rfl) (fun _ _ _ h => h) (Or.inl ⟨by rfl, ?hys8⟩) (by assumption) ?rests8
      case hys8 => (intro w hSw; (try dsimp only at hSw); go_simp; try (with_reducible rfl))
      try simp only [Act.put, List.setIfInBounds_toArray, List.set_cons_zero, List.set_cons_succ]
      refine take_op 9 47 (v := .agg la.toArray) rfl rfl (by kernel_rfl) (by kernel_rfl) (by kernel_rfl) (fun _ _ _ h => h) (yieldsIf_load_mid (by rfl) _ _ rfl _ _ rfl la _ (fun _ h => h.2.2.2) Tryf.underlying44 rfl hia) (by assumption) ?_
      try simp only [Act.put, List.setIfInBounds_toArray, List.set_cons_zero, List.set_cons_succ]
      refine take_op 10 48 (v := ?vs10) rfl rfl (by kernel_rfl) (by kernel_rfl) (by kernel_rfl) (fun _ _ _ h => h) (Or.inl ⟨by rfl, ?hys10⟩) (by assumption) ?rests10
      case hys10 => (intro w hSw; (try dsimp only at hSw); go_simp; try (with_reducible rfl))
      try simp only [Act.put, List.setIfInBounds_toArray, List.set_cons_zero, List.set_cons_succ]
      refine wpAnyH_done (by kernel_rfl) ?_ _
      refine NoPanic.normal ?_
      go_wp2
      go_roundw
      case rel => exact ⟨j + 1, by omega, by go_num, hbr.drew⟩
      case measure => simp [intOf]; omega
    · obtain rfl : j = k := by omega
      go_wp2
      go_ret
      exact ⟨rfl, hbw.trans (hbr.mono hbw.size)⟩
end Go.Proofs.Qxb6608948aFmt
