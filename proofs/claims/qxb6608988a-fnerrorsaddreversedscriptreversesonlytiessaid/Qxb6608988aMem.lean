/-
  The second law's own rows: idx and seen; pointers held against each other.
-/
import Derived.Test.Qxb6608988aStep
import Derived.Test.Qxb6608988aBack
import Derived.LaidEqlPtr
import Derived.Lib.Builder
import Derived.Laws.OwnMore
namespace Go.Proofs.Qxb6608988a
set_option linter.unusedSimpArgs false
set_option linter.unusedVariables false
open Go.RowKit

variable {L C : Nat → Int} {M : Nat → ByteArray}

theorem info55 : ∃ i0, Try.prog.info? 55 = some i0 ∧ i0.size ≠ 0 := by
  have h : (Try.prog.info? 55).map (fun i => i.size) = some 3 := by kernel_rfl
  obtain ⟨i0, h1, h2⟩ := Option.map_eq_some_iff.1 h
  exact ⟨i0, h1, by rw [h2]; decide⟩
theorem eql_same (a : Addr) (W : World) : (binOp .eql 51 (.pointer (some a)) (.pointer (some a))).run Try.prog W = .ok (.bool true) W := by
  obtain ⟨i0, hi, _⟩ := info55
  exact run_eql_ptr_same W a Try.underlying51 hi
theorem neq_eq (a : Addr) (W : World) : (binOp .neq 51 (.pointer (some a)) (.pointer (some a))).run Try.prog W = .ok (.bool false) W := by
  obtain ⟨i0, hi, _⟩ := info55
  exact Lib.run_neq_ptr_same W a Try.underlying51 hi
theorem eql_other {A : Nat → Nat} {m m' : Nat} {W : World} (h : Blk L C M A m W) (h' : Blk L C M A m' W) (hne : A m ≠ A m') : (binOp .eql 51 (.pointer (some ⟨A m, 0, none⟩)) (.pointer (some ⟨A m', 0, none⟩))).run Try.prog W = .ok (.bool false) W := by
  obtain ⟨i0, hi, hz⟩ := info55
  exact run_eql_ptr_other W Try.underlying51 hi hz (fun e => hne (by injection e)) h h'
theorem Base.apart {P n k : Nat} {A : Nat → Nat} {w : World} (h : Base L C M P n k A w) {m m' : Nat} (h1 : m < k) (h2 : m' < k) (hne : m ≠ m') : A m ≠ A m' := fun e => by
  rcases Nat.lt_or_gt_of_ne hne with hl | hl
  · have := h.inc m m' hl h2; omega
  · have := h.inc m' m hl h1; omega

theorem make_ints (n : Nat) (hn : n ≤ 4096) : ∃ M : Array Value, M.size = n ∧ ∀ w, (Instr.makeSlice 58 (.int .i64 n) (.int .i64 n)).run Try.prog w = .ok (.slice (some ⟨w.heap.size, 0, none⟩) n n) (w.alloc (.cells M 3)) := by
  obtain ⟨i0, hi, hz0, hz1, hz2⟩ := info_parts (P := Try.prog) (e := 3) (z := .int .i64 0) (size := 1) (bytes := 8) (by kernel_rfl)
  refine ⟨madeCells (Value.int .i64 0).cells n, size_madeCells _ n, fun w => ?_⟩
  have := run_make (P := Try.prog) w 58 3 i0 _ Try.underlying58 hi hz0 .i64 .i64 n n (by omega) (by omega) (by rw [hz2]; omega) (by omega)
  rw [hz1] at this
  simpa using this
theorem make_bools (n : Nat) (hn : n ≤ 4096) : ∃ M : Array Value, (∀ i, i < n → M[i]? = some (.bool false)) ∧ ∀ w, (Instr.makeSlice 59 (.int .i64 n) (.int .i64 n)).run Try.prog w = .ok (.slice (some ⟨w.heap.size, 0, none⟩) n n) (w.alloc (.cells M 4)) := by
  obtain ⟨i0, hi, hz0, hz1, hz2⟩ := info_parts (P := Try.prog) (e := 4) (z := .bool false) (size := 1) (bytes := 1) (by kernel_rfl)
  refine ⟨madeCells (Value.bool false).cells n, fun i h => ?_, fun w => ?_⟩
  · have := toList_madeCells_one (.bool false) n
    rw [← Array.getElem?_toList, show (Value.bool false).cells = #[.bool false] from rfl, this, List.getElem?_replicate, if_pos h]
  · have := run_make (P := Try.prog) w 59 4 i0 _ Try.underlying59 hi hz0 .i64 .i64 n n (by omega) (by omega) (by rw [hz2]; omega) (by omega)
    rw [hz1] at this
    simpa using this

/-- Fault m is among the first j of the forward list. -/
def sn (L C : Nat → Int) (n j m : Nat) : Bool := (List.range j).any fun q => fw L C n q == m
theorem sn_succ (n j m : Nat) : sn L C n (j + 1) m = (sn L C n j m || fw L C n j == m) := by
  unfold sn; rw [List.range_succ, List.any_append]; simp
theorem sn_no {n j : Nat} (hj : j < n) : sn L C n j (fw L C n j) = false := by
  rw [Bool.eq_false_iff]; intro h
  obtain ⟨q, hq, e⟩ := List.any_eq_true.1 h
  exact fw_ne (L := L) (C := C) (List.mem_range.1 hq) hj (by simpa using e)

/-- idx in block X, seen in the next, behind j rounds. -/
structure Mem7 (L C : Nat → Int) (n X j : Nat) (w : World) : Prop where
  own : Own X n w
  owns : Own (X + 1) n w
  idx : ∀ m, m < j → w.cell? ⟨X, m, none⟩ = some (.int .i64 (fw L C n m))
  seen : ∀ m, m < n → w.cell? ⟨X + 1, m, none⟩ = some (.bool (sn L C n j m))
  big : X + 1 < w.heap.size

theorem Mem7.on {n X j B : Nat} {w w' : World} (h : Mem7 L C n X j w) (hb : Below B w w') (hB : X + 1 < B) : Mem7 L C n X j w' where
  own := fun c hc => ⟨by rw [hb.cell (p := ⟨X, c, none⟩) (by show X < B; omega)]; exact (h.own c hc).1, by rw [World.frozen?_of_block (w := w) (a := ⟨X, c, none⟩) (hb.block X (by omega))]; exact (h.own c hc).2⟩
  owns := fun c hc => ⟨by rw [hb.cell (p := ⟨X + 1, c, none⟩) hB]; exact (h.owns c hc).1, by rw [World.frozen?_of_block (w := w) (a := ⟨X + 1, c, none⟩) (hb.block (X + 1) hB)]; exact (h.owns c hc).2⟩
  idx := fun m hm => (hb.cell (p := ⟨X, m, none⟩) (by show X < B; omega)).trans (h.idx m hm)
  seen := fun m hm => (hb.cell (p := ⟨X + 1, m, none⟩) hB).trans (h.seen m hm)
  big := Nat.lt_of_lt_of_le h.big hb.size

theorem Mem7.start {n : Nat} {M1 M2 : Array Value} {w : World} (h1 : M1.size = n) (h2 : ∀ i, i < n → M2[i]? = some (.bool false)) : Mem7 L C n w.heap.size 0 ((w.alloc (.cells M1 3)).alloc (.cells M2 4)) := by
  have e1 : ((w.alloc (.cells M1 3)).alloc (.cells M2 4)).heap[w.heap.size]? = some (.cells M1 3 (0, 0)) := by
    rw [Below.heap_alloc _ _ _ (by simp)]; exact heap_alloc_new w _
  have e2 : ((w.alloc (.cells M1 3)).alloc (.cells M2 4)).heap[w.heap.size + 1]? = some (.cells M2 4 (0, 0)) := by
    have := heap_alloc_new (w.alloc (.cells M1 3)) (.cells M2 4)
    rwa [show (w.alloc (.cells M1 3)).heap.size = w.heap.size + 1 by simp] at this
  refine ⟨fun c hc => ⟨?_, frozen_of_row _ _ c _ _ e1⟩, fun c hc => ⟨?_, frozen_of_row _ _ c _ _ e2⟩, fun m hm => by omega, fun m hm => ?_, by simp⟩
  · rw [cell_of_row _ _ c _ _ _ e1, Array.getElem?_eq_getElem (by omega)]; rfl
  · rw [cell_of_row _ _ c _ _ _ e2, h2 c hc]; rfl
  · rw [cell_of_row _ _ m _ _ _ e2, h2 m hm]; rfl

/-- The world behind 'seen[k] = true; idx[j] = k'. -/
def noted (L C : Nat → Int) (n X j : Nat) (w : World) : World := (w.setCell ⟨X + 1, fw L C n j, none⟩ (.bool true)).setCell ⟨X, j, none⟩ (.int .i64 (fw L C n j))
theorem own_other {B q P c : Nat} {w : World} (h : Own B q w) (hne : B ≠ P) (v : Value) : Own B q (w.setCell ⟨P, c, none⟩ v) := fun d hd => by
  refine ⟨?_, by rw [World.frozen?_setCell]; exact (h d hd).2⟩
  rw [World.cell?_setCell_other _ _ _ _ (fun e => hne (by injection e with e; exact e.symm))]; exact (h d hd).1
theorem Mem7.next {n X j : Nat} {w : World} (h : Mem7 L C n X j w) (hj : j < n) : Mem7 L C n X (j + 1) (noted L C n X j w) where
  own := (own_other h.own (by omega) _).set j _
  owns := own_other (h.owns.set _ _) (by omega) _
  idx := fun m hm => by
    unfold noted
    by_cases e : m = j
    · subst e
      obtain ⟨u, hu⟩ := Option.isSome_iff_exists.1 ((own_other h.own (P := X + 1) (c := fw L C n m) (by omega) (.bool true)) m hj).1
      rw [World.cell?_setCell_same _ _ _ hu]
    · rw [World.cell?_setCell_other _ _ _ _ (fun h => e (by injection h with _ h2; exact h2.symm)), World.cell?_setCell_other _ _ _ _ (fun h => by injection h with h2; omega)]
      exact h.idx m (by omega)
  seen := fun m hm => by
    unfold noted
    rw [World.cell?_setCell_other _ _ _ _ (fun h => by injection h with h2; omega), sn_succ]
    by_cases e : fw L C n j = m
    · subst e
      rw [World.cell?_setCell_same _ _ _ (h.seen _ hm)]
      simp
    · rw [World.cell?_setCell_other _ _ _ _ (fun h => e (by injection h)), h.seen m hm]
      have : (fw L C n j == m) = false := by simpa using e
      rw [this, Bool.or_false]
  big := by unfold noted; rw [World.size_setCell, World.size_setCell]; exact h.big
theorem noted_below {n X j : Nat} {w w0 : World} (h : Below X w0 w) : Below X w0 (noted L C n X j w) :=
  (h.setCell (p := ⟨X + 1, _, none⟩) (by show X ≤ X + 1; omega) _).setCell (p := ⟨X, _, none⟩) (Nat.le_refl _) _
end Go.Proofs.Qxb6608988a
