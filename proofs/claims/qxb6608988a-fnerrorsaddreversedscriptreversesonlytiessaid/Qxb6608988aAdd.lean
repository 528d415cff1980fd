/-
  Errors.Add: the closure, slices.IndexFunc, the method.
-/
import Derived.Test.Qxb6608988aIns
import Derived.Deep.LoopGhost
import Derived.Deep.RegionHeld3
namespace Go.Proofs.Qxb6608988a
set_option linter.unusedSimpArgs false
set_option linter.unusedVariables false
open Go.RowKit Go.Lib

/-- A fault's place in its block. -/
def Plc (b : Nat) (l c : Int) (w : World) : Prop := w.cell? ⟨b, 0, none⟩ = some (.int .i64 l) ∧ w.cell? ⟨b, 1, none⟩ = some (.int .i64 c)
theorem Plc.on {b B : Nat} {l c : Int} {w w' : World} (h : Plc b l c w) (hb : Below B w w') (hB : w.heap.size ≤ B) : Plc b l c w' := by
  have hlt := World.block_lt_of_cell? w _ h.1
  exact ⟨(hb.cell (Nat.lt_of_lt_of_le hlt hB)).trans h.1, (hb.cell (p := ⟨b, 1, none⟩) (Nat.lt_of_lt_of_le hlt hB)).trans h.2⟩

set_option maxHeartbeats 2000000 in
theorem clo_28 (bx fb eb : Nat) (a b c d : Int) (w : World) (hx : w.cell? ⟨bx, 0, none⟩ = some (.pointer (some ⟨fb, 0, none⟩))) (hf : Plc fb a b w) (he : Plc eb c d w) :
    Calls Try.prog 28 #[.pointer (some ⟨eb, 0, none⟩), .pointer (some ⟨bx, 0, none⟩)] w fun e w' => e = .returned (.bool (lt a b c d)) ∧ Below w.heap.size w w' := by
  obtain ⟨f0, f1⟩ := hf
  obtain ⟨e0, e1⟩ := he
  have l0 := World.block_lt_of_cell? w _ hx
  have l1 := World.block_lt_of_cell? w _ f0
  have l2 := World.block_lt_of_cell? w _ e0
  have S1 : ∀ W W', Below W.heap.size W W' → (W.cell? ⟨bx, 0, none⟩ = some (.pointer (some ⟨fb, 0, none⟩)) ∧ W.cell? ⟨fb, 0, none⟩ = some (.int .i64 a) ∧ W.cell? ⟨fb, 1, none⟩ = some (.int .i64 b) ∧ W.cell? ⟨eb, 0, none⟩ = some (.int .i64 c) ∧ W.cell? ⟨eb, 1, none⟩ = some (.int .i64 d)) →
      (W'.cell? ⟨bx, 0, none⟩ = some (.pointer (some ⟨fb, 0, none⟩)) ∧ W'.cell? ⟨fb, 0, none⟩ = some (.int .i64 a) ∧ W'.cell? ⟨fb, 1, none⟩ = some (.int .i64 b) ∧ W'.cell? ⟨eb, 0, none⟩ = some (.int .i64 c) ∧ W'.cell? ⟨eb, 1, none⟩ = some (.int .i64 d)) := fun W W' h ⟨h1, h2, h3, h4, h5⟩ =>
    ⟨(h.cell (World.block_lt_of_cell? W _ h1)).trans h1, (h.cell (World.block_lt_of_cell? W _ h2)).trans h2, (h.cell (World.block_lt_of_cell? W _ h3)).trans h3, (h.cell (World.block_lt_of_cell? W _ h4)).trans h4, (h.cell (World.block_lt_of_cell? W _ h5)).trans h5⟩
  have H0 : Hid (w.drew.cell? ⟨bx, 0, none⟩ = some (.pointer (some ⟨fb, 0, none⟩)) ∧ w.drew.cell? ⟨fb, 0, none⟩ = some (.int .i64 a) ∧ w.drew.cell? ⟨fb, 1, none⟩ = some (.int .i64 b) ∧ w.drew.cell? ⟨eb, 0, none⟩ = some (.int .i64 c) ∧ w.drew.cell? ⟨eb, 1, none⟩ = some (.int .i64 d)) := ⟨hx, f0, f1, e0, e1⟩
  have H1 := (show Hid _ from S1)
  clear S1
  go_enter Try.func28, Try.ntmps28
  go_wp2
  go_region_held3 (fun W => W.cell? ⟨bx, 0, none⟩ = some (.pointer (some ⟨fb, 0, none⟩)) ∧ W.cell? ⟨fb, 0, none⟩ = some (.int .i64 a) ∧ W.cell? ⟨fb, 1, none⟩ = some (.int .i64 b) ∧ W.cell? ⟨eb, 0, none⟩ = some (.int .i64 c) ∧ W.cell? ⟨eb, 1, none⟩ = some (.int .i64 d))
    (first | exact H0.out | exact H1.out _ _ hb1 (by assumption))
    ((go_at_call 29; refine (before_29 a b c d _).mono ?_; rintro e w1 ⟨rfl, hb1⟩))
  go_wp2
  go_ret
  exact ⟨rfl, (Below.refl _ w).drew.trans hb1⟩

set_option maxHeartbeats 2000000 in
/-- slices.IndexFunc with the closure: J is the first place where the fault stands before, or n. -/
theorem index_27 (bx fb g n c J : Nat) (E : Nat → Nat) (L C : Nat → Int) (a b : Int) (w : World) (hn : n ≤ 4096) (hJ : J ≤ n) (hx : w.cell? ⟨bx, 0, none⟩ = some (.pointer (some ⟨fb, 0, none⟩))) (hf : Plc fb a b w)
    (hc : ∀ j, j < n → w.cell? ⟨g, j, none⟩ = some (.pointer (some ⟨E j, 0, none⟩))) (he : ∀ j, j < n → Plc (E j) (L j) (C j) w) (hno : ∀ j, j < J → lt a b (L j) (C j) = false) (hyes : J < n → lt a b (L J) (C J) = true) :
    Calls Try.prog 27 #[.slice (some ⟨g, 0, none⟩) n c, .func (.func 28) #[] #[.pointer (some ⟨bx, 0, none⟩)]] w fun e w' => e = .returned (.int .i64 (if J < n then (J : Int) else -1)) ∧ Below w.heap.size w w' := by
  go_enter Try.func27, Try.ntmps27
  go_wp2
  go_loopw [5, 8] (fun _ i wr => ∃ k : Nat, k ≤ J ∧ i = .int .i64 k ∧ Below w.heap.size w wr) (fun _ i _ => n - (RowKit.intOf i).toNat)
  case atStart => exact ⟨0, by omega, rfl, Below.refl _ _⟩
  case round =>
    obtain ⟨k, hk, rfl, hbl⟩ := hrel
    by_cases hlt : k < n
    · have hlt' : (k : Int) < (n : Int) := by omega
      have hck := hc k hlt
      have hgk := World.block_lt_of_cell? w _ hck
      have hck' : wr.cell? ⟨g, k, none⟩ = some (.pointer (some ⟨E k, 0, none⟩)) := (hbl.cell hgk).trans hck
      have hcl := clo_28 bx fb (E k) a b (L k) (C k) wr ((hbl.cell (World.block_lt_of_cell? w _ hx)).trans hx) (hf.on hbl (Nat.le_refl _)) ((he k hlt).on hbl (Nat.le_refl _))
      have hsz := hbl.size
      by_cases hkJ : k = J
      · subst hkJ
        rw [hyes hlt] at hcl
        go_wp2_with (go_at_call 28; refine hcl.mono ?_; rintro e w1 ⟨rfl, hb1⟩)
        go_ret
        exact ⟨by first | rfl | (rw [if_pos hlt]; rfl), hbl.trans (hb1.mono hsz)⟩
      · rw [hno k (by omega)] at hcl
        go_wp2_with (go_at_call 28; refine hcl.mono ?_; rintro e w1 ⟨rfl, hb1⟩)
        go_roundw
        case rel => exact ⟨k + 1, by omega, by go_num, hbl.trans (hb1.mono hsz)⟩
        case measure => simp [RowKit.intOf]; omega
    · have hkn : k = n := by omega
      subst hkn
      go_wp2
      go_ret
      exact ⟨by first | rfl | (rw [if_neg (by omega)]; rfl), hbl⟩

set_option maxHeartbeats 2000000 in
theorem index_27_nil (fv : Value) (c : Nat) (a : Option Addr) (w : World) : Calls Try.prog 27 #[.slice a 0 c, fv] w fun e w' => e = .returned (.int .i64 (-1)) ∧ w' = w := by
  go_enter Try.func27, Try.ntmps27
  go_wp2
  go_loop [5, 8] (fun _ i => i = .int .i64 0) (fun _ i => 0)
  case atStart => rfl
  case round =>
    obtain rfl := hrel
    go_wp2
    go_ret
    exact ⟨rfl, rfl⟩

theorem grown_trans {a b c : World} {row : Option Nat} (h1 : a.grownBy b row) (h2 : b.grownBy c row) : a.grownBy c row :=
  ⟨h2.os.trans h1.os, h2.tape.trans h1.tape, h2.output.trans h1.output, Nat.le_trans h1.size h2.size, fun k hk hr => (h2.block k (Nat.lt_of_lt_of_le hk h1.size) hr).trans (h1.block k hk hr)⟩
theorem grown_of_below {a b : World} (h : Below a.heap.size a b) (row : Option Nat) : a.grownBy b row := ⟨h.os, h.tape, h.output, h.size, fun k hk _ => h.block k hk⟩

set_option maxHeartbeats 2000000 in
/-- Add, with the list of the call's own: the fault goes in at J. -/
theorem add_24 (B n J fb : Nat) (v : Value) (E : Nat → Nat) (L C : Nat → Int) (a b : Int) (w : World) (hn : n ≤ 4096) (hJ : J ≤ n) (hB : B ≤ w.heap.size) (hown : w.ownsRow B 51 1 v n ((List.range n).map fun j => .pointer (some ⟨E j, 0, none⟩))) (hf : Plc fb a b w)
    (he : ∀ j, j < n → Plc (E j) (L j) (C j) w) (hno : ∀ j, j < J → lt a b (L j) (C j) = false) (hyes : J < n → lt a b (L J) (C J) = true) :
    Calls Try.prog 24 #[v, .pointer (some ⟨fb, 0, none⟩)] w fun e w' => ∃ v', e = .returned v' ∧ w'.ownsRow B 51 1 v' (n + 1) ((((List.range n).map fun j => Value.pointer (some ⟨E j, 0, none⟩)).take J) ++ .pointer (some ⟨fb, 0, none⟩) :: (((List.range n).map fun j => Value.pointer (some ⟨E j, 0, none⟩)).drop J)) ∧ w.grownBy w' v.ownBlock := by
  obtain ⟨i0, hi, hz0, hz1, hz2⟩ := info_parts Try.info51
  have hw1 : (w.alloc (.cells #[.pointer (some ⟨fb, 0, none⟩)] 51)).cell? ⟨w.heap.size, 0, none⟩ = some (.pointer (some ⟨fb, 0, none⟩)) := by simp [go_sem]
  have hb0 : Below w.heap.size w (w.alloc (.cells #[.pointer (some ⟨fb, 0, none⟩)] 51)) := (Below.refl _ w).alloc (Nat.le_refl _) _
  have hf0 := hf.on hb0 (Nat.le_refl _)
  have he0 := fun j hj => (he j hj).on hb0 (Nat.le_refl _)
  have hown0 := hown.alloc (.cells #[.pointer (some ⟨fb, 0, none⟩)] 51)
  have hix : Calls Try.prog 27 #[v, .func (.func 28) #[] #[.pointer (some ⟨w.heap.size, 0, none⟩)]] (w.alloc (.cells #[.pointer (some ⟨fb, 0, none⟩)] 51)) fun e w' => e = .returned (.int .i64 (if J < n then (J : Int) else -1)) ∧ Below (w.heap.size + 1) (w.alloc (.cells #[.pointer (some ⟨fb, 0, none⟩)] 51)) w' := by
    rcases hown.2 with ⟨rfl, rfl⟩ | ⟨g, cap, cur, rfl, _, _, _, _, _, _⟩
    · refine (index_27_nil _ 0 none _).mono ?_
      rintro e w' ⟨rfl, rfl⟩
      exact ⟨by rw [if_neg (by omega)], Below.refl _ _⟩
    · have h := index_27 w.heap.size fb g n cap J E L C a b (w.alloc (.cells #[.pointer (some ⟨fb, 0, none⟩)] 51)) hn hJ hw1 hf0 (fun j hj => by
        have := hown0.cells (g := g) rfl j (.pointer (some ⟨E j, 0, none⟩)) (by simp [List.getElem?_map, List.getElem?_range hj])
        rwa [Addr.add_mid, Nat.zero_add] at this) he0 hno hyes
      refine h.mono ?_
      rintro e w' ⟨he, hb⟩
      exact ⟨he, by simpa using hb⟩
  generalize hXS : (List.range n).map (fun j => Value.pointer (some ⟨E j, 0, none⟩)) = xs at hown hown0 ⊢
  have hone : ∀ u ∈ xs, u.oneCell' = true := fun u hu => by
    rw [← hXS] at hu
    obtain ⟨j, _, rfl⟩ := List.mem_map.1 hu
    rfl
  have hxl : xs.length = n := by rw [← hXS]; simp
  have hlt0 : ∀ k, v.ownBlock = some k → k < w.heap.size := fun k hk => (hown.lt k hk).2
  have hn0 : v.ownBlock ≠ some w.heap.size := fun e => by have := hlt0 _ e; omega
  by_cases hlt : J < n
  · rw [if_pos hlt] at hix
    go_enter Try.func24, Try.ntmps24
    go_wp2_with (first
      | (go_at_call 27; refine hix.mono ?_; rintro e w1 ⟨rfl, hb1⟩; have hc1 := (hb1.cell (p := ⟨w.heap.size, 0, none⟩) (Nat.lt_succ_self _)).trans hw1
         have hg1 : w.grownBy w1 v.ownBlock := grown_trans (grown_of_below hb0 _) (grown_of_below (by simpa using hb1) _)
         have hs1 : w.heap.size ≤ w1.heap.size := hg1.size
         have hn1 : v.ownBlock ≠ some w1.heap.size := fun e => by have := hlt0 _ e; omega
         have hown1 : w1.ownsRow B 51 1 v n xs := (hown0.kept (grown_of_below (by simpa using hb1) none) (by cases v.ownBlock <;> simp))
         have hown2 := hown1.alloc (.cells #[.pointer (some ⟨fb, 0, none⟩)] 51)
         have hin := insert_own B n J w1.heap.size v (.pointer (some ⟨fb, 0, none⟩)) xs _ hlt hn (by simp; omega) hown2 (heap_alloc_new w1 _) hn1 hone rfl)
      | (go_at_call 30; refine hin.mono ?_; rintro e w3 ⟨v', rfl, hown3, hg3⟩))
    go_ret
    exact ⟨v', rfl, hown3, grown_trans (grown_trans hg1 (World.grownBy_alloc w1 _ _)) hg3⟩
  · rw [if_neg hlt] at hix
    obtain rfl : J = n := by omega
    go_enter Try.func24, Try.ntmps24
    go_wp2_with (first
      | (go_at_call 27; refine hix.mono ?_; rintro e w1 ⟨rfl, hb1⟩; have hc1 := (hb1.cell (p := ⟨w.heap.size, 0, none⟩) (Nat.lt_succ_self _)).trans hw1
         have hg1 : w.grownBy w1 v.ownBlock := grown_trans (grown_of_below hb0 _) (grown_of_below (by simpa using hb1) _)
         have hs1 : w.heap.size ≤ w1.heap.size := hg1.size
         have hown1 : w1.ownsRow B 51 1 v J xs := (hown0.kept (grown_of_below (by simpa using hb1) none) (by cases v.ownBlock <;> simp))
         have hown2 := hown1.alloc (.cells #[.pointer (some ⟨fb, 0, none⟩)] 51))
      | (at_builtin; refine wpList_append_own _ rfl (.tmp 11) (.tmp 13) 50 rfl B 51 i0 (.pointer none) 1 8 Try.underlying50 hi hz0 hz1 hz2 rfl (by decide) v J xs rfl hown2 ⟨w1.heap.size, 0, none⟩ 1 1 [.pointer (some ⟨fb, 0, none⟩)] rfl rfl ?qn ?q1 ?qm ?qb ?qB ?_))
    case qn =>
      intro j u hu
      rcases j with _ | j
      · obtain rfl : Value.pointer (some ⟨fb, 0, none⟩) = u := by simpa using hu
        rw [Addr.add_mid, cell_of_row _ _ _ _ _ _ (heap_alloc_new w1 _)]; rfl
      · simp at hu
    case q1 => exact List.forall_mem_singleton.2 rfl
    case qm => unfold maxLen; omega
    case qb => omega
    case qB => simp; omega
    intro v' w3 hown3 hg3 _
    go_wp2
    go_ret
    refine ⟨v', rfl, ?_, grown_trans (grown_trans hg1 (World.grownBy_alloc w1 _ _)) hg3⟩
    rw [List.take_of_length_le (by omega), List.drop_eq_nil_of_le (by omega)]
    exact hown3
end Go.Proofs.Qxb6608988a
