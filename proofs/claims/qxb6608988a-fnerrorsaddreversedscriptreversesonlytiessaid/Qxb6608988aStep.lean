/-
  Add on a list of faults, each in a block of its own.
-/
import Derived.Test.Qxb6608988aAdd
import Derived.Test.Qxb6608988aBnd
import Derived.Test.Qxb6608988aPlain
namespace Go.Proofs.Qxb6608988a
set_option linter.unusedSimpArgs false
set_option linter.unusedVariables false
open Go.RowKit

/-- The pointer to fault j. -/
def ptr (A : Nat → Nat) (j : Nat) : Value := .pointer (some ⟨A j, 0, none⟩)

theorem range_get (A : Nat → Nat) (l : List Nat) : ((List.range l.length).map fun p => ptr A (l.getD p 0)) = l.map (ptr A) := by
  apply List.ext_getElem?
  intro j
  by_cases hj : j < l.length
  · simp [List.getElem?_range, hj]
  · simp [hj]

theorem add_list (L C : Nat → Int) (B x : Nat) (v : Value) (l : List Nat) (A : Nat → Nat) (w : World) (hl : l.length ≤ 4096) (hB : B ≤ w.heap.size) (hown : w.ownsRow B 51 1 v l.length (l.map (ptr A))) (hx : Plc (A x) (L x) (C x) w) (he : ∀ j ∈ l, Plc (A j) (L j) (C j) w) :
    Calls Try.prog 24 #[v, ptr A x] w fun e w' => ∃ v', e = .returned v' ∧ w'.ownsRow B 51 1 v' (l.length + 1) ((ins L C x l).map (ptr A)) ∧ w.grownBy w' v.ownBlock := by
  have hmem : ∀ j, j < l.length → l.getD j 0 ∈ l := fun j hj => by
    rw [List.getD_eq_getElem?_getD, List.getElem?_eq_getElem hj]; exact List.getElem_mem hj
  have h := add_24 B l.length (spot L C x l) (A x) v (fun p => A (l.getD p 0)) (fun p => L (l.getD p 0)) (fun p => C (l.getD p 0)) (L x) (C x) w hl (spot_le x l) hB (by rw [show ((List.range l.length).map fun j => Value.pointer (some ⟨A (l.getD j 0), 0, none⟩)) = l.map (ptr A) from range_get A l]; exact hown) hx
    (fun j hj => he _ (hmem j hj)) (fun j hj => spot_no hj) (fun hj => spot_yes hj)
  rw [show ((List.range l.length).map fun j => Value.pointer (some ⟨A (l.getD j 0), 0, none⟩)) = l.map (ptr A) from range_get A l] at h
  refine h.mono ?_
  rintro e w' ⟨v', he, ho, hg⟩
  refine ⟨v', he, ?_, hg⟩
  unfold ins
  rw [List.map_append, List.map_cons, List.map_take, List.map_drop]
  exact ho

/-- A row of the call's own: n cells, all to be written. -/
def Own (B q : Nat) (w : World) : Prop := ∀ c, c < q → (w.cell? ⟨B, c, none⟩).isSome = true ∧ w.frozen? ⟨B, c, none⟩ = false
theorem Own.set {B q : Nat} {w : World} (h : Own B q w) (c : Nat) (v : Value) : Own B q (w.setCell ⟨B, c, none⟩ v) := fun d hd => by
  refine ⟨?_, by rw [World.frozen?_setCell]; exact (h d hd).2⟩
  obtain ⟨u, hu⟩ := Option.isSome_iff_exists.1 (h d hd).1
  by_cases e : c = d
  · subst e; rw [World.cell?_setCell_same _ _ _ hu]; rfl
  · rw [World.cell?_setCell_other _ _ _ _ (fun h => e (by injection h)), hu]; rfl

theorem make_ptrs (n : Nat) (hn : n ≤ 4096) : ∃ M : Array Value, M.size = n ∧ ∀ w, (Instr.makeSlice 49 (.int .i64 n) (.int .i64 n)).run Try.prog w = .ok (.slice (some ⟨w.heap.size, 0, none⟩) n n) (w.alloc (.cells M 51)) := by
  obtain ⟨i0, hi, hz0, hz1, hz2⟩ := info_parts Try.info51
  refine ⟨madeCells (Value.pointer none).cells n, size_madeCells _ n, fun w => ?_⟩
  have := run_make (P := Try.prog) w 49 51 i0 _ Try.underlying49 hi hz0 .i64 .i64 n n (by omega) (by omega) (by rw [hz2]; omega) (by omega)
  rw [hz1] at this
  simpa using this

/-- A fault's block. -/
def Blk (L C : Nat → Int) (M : Nat → ByteArray) (A : Nat → Nat) (m : Nat) (w : World) : Prop := w.heap[A m]? = some (.cells #[.int .i64 (L m), .int .i64 (C m), .string (M m)] 55 (0, 0))
theorem Blk.plc {L C : Nat → Int} {M : Nat → ByteArray} {A : Nat → Nat} {m : Nat} {w : World} (h : Blk L C M A m w) : Plc (A m) (L m) (C m) w :=
  ⟨by rw [cell_of_row _ _ _ _ _ _ h]; rfl, by rw [cell_of_row _ _ _ _ _ _ h]; rfl⟩
theorem Blk.ne {L C : Nat → Int} {M : Nat → ByteArray} {A : Nat → Nat} {m B n : Nat} {w : World} {v : Value} {xs : List Value} (h : Blk L C M A m w) (ho : w.ownsRow B 51 1 v n xs) : v.ownBlock ≠ some (A m) := fun e => by
  rcases ho.2 with ⟨rfl, _⟩ | ⟨g, cap, cur, rfl, _, hg, _⟩
  · cases e
  · obtain rfl : g = A m := by simpa [Value.ownBlock] using e
    have := hg.symm.trans h
    simp at this

/-- The row of pointers in block P, and the faults' blocks: k of n. -/
structure Base (L C : Nat → Int) (M : Nat → ByteArray) (P n k : Nat) (A : Nat → Nat) (w : World) : Prop where
  own : Own P n w
  row : ∀ m, m < k → w.cell? ⟨P, m, none⟩ = some (ptr A m)
  blk : ∀ m, m < k → Blk L C M A m w
  far : ∀ m, m < k → P < A m
  inc : ∀ m m', m < m' → m' < k → A m < A m'
  big : P + 1 ≤ w.heap.size

variable {L C : Nat → Int} {M : Nat → ByteArray}
theorem Base.grown {P n k : Nat} {A : Nat → Nat} {w w' : World} {row : Option Nat} (h : Base L C M P n k A w) (hg : w.grownBy w' row) (h1 : row ≠ some P) (h2 : ∀ m, m < k → row ≠ some (A m)) : Base L C M P n k A w' where
  own := fun c hc => by
    have e := hg.block P (by have := h.big; omega) (fun e => h1 e.symm)
    exact ⟨by rw [World.cell?_of_block (w := w) (a := ⟨P, c, none⟩) e]; exact (h.own c hc).1, by rw [World.frozen?_of_block (w := w) (a := ⟨P, c, none⟩) e]; exact (h.own c hc).2⟩
  row := fun m hm => by
    have e := hg.block P (by have := h.big; omega) (fun e => h1 e.symm)
    rw [World.cell?_of_block (w := w) (a := ⟨P, m, none⟩) e]; exact h.row m hm
  blk := fun m hm => (hg.block (A m) (Array.getElem?_eq_some_iff.1 (h.blk m hm)).1 (fun e => h2 m hm e.symm)).trans (h.blk m hm)
  far := h.far
  inc := h.inc
  big := Nat.le_trans h.big hg.size

/-- The next fault's block. -/
def upd (A : Nat → Nat) (k q : Nat) (m : Nat) : Nat := if m = k then q else A m
theorem upd_lt {A : Nat → Nat} {k q m : Nat} (h : m < k) : upd A k q m = A m := if_neg (by omega)
theorem upd_at {A : Nat → Nat} {k q : Nat} : upd A k q k = q := if_pos rfl
theorem ptr_upd {A : Nat → Nat} {k q : Nat} {l : List Nat} (h : ∀ j ∈ l, j < k) : l.map (ptr (upd A k q)) = l.map (ptr A) :=
  List.map_congr_left fun j hj => by unfold ptr; rw [upd_lt (h j hj)]

/-- The world behind 'ptrs[k] = &Error{..}'. -/
def made (L C : Nat → Int) (M : Nat → ByteArray) (P k : Nat) (w : World) : World :=
  ((w.alloc (.cells #[.int .i64 (L k), .int .i64 (C k)] 30)).alloc (.cells #[.int .i64 (L k), .int .i64 (C k), .string (M k)] 55)).setCell ⟨P, k, none⟩ (.pointer (some ⟨w.heap.size + 1, 0, none⟩))
theorem made_size (P k : Nat) (w : World) : (made L C M P k w).heap.size = w.heap.size + 2 := by simp [made]
theorem made_other {P k : Nat} {w : World} {b : Nat} (hb : b < w.heap.size) (hne : b ≠ P) : (made L C M P k w).heap[b]? = w.heap[b]? := by
  unfold made
  rw [Below.heap_setCell _ _ _ _ hne, Below.heap_alloc _ _ _ (by simp; omega), Below.heap_alloc _ _ _ hb]
theorem made_grown {P k : Nat} {w : World} : w.grownBy (made L C M P k w) (some P) :=
  ⟨rfl, rfl, rfl, by rw [made_size]; omega, fun b hb hne => made_other hb (fun e => hne (by rw [e]))⟩

theorem Base.next {P n k : Nat} {A : Nat → Nat} {w : World} (h : Base L C M P n k A w) (hk : k < n) : Base L C M P n (k + 1) (upd A k (w.heap.size + 1)) (made L C M P k w) where
  own := by
    have h0 : Own P n ((w.alloc (.cells #[.int .i64 (L k), .int .i64 (C k)] 30)).alloc (.cells #[.int .i64 (L k), .int .i64 (C k), .string (M k)] 55)) := fun c hc => by
      have e : ((w.alloc (.cells #[.int .i64 (L k), .int .i64 (C k)] 30)).alloc (.cells #[.int .i64 (L k), .int .i64 (C k), .string (M k)] 55)).heap[P]? = w.heap[P]? := by
        rw [Below.heap_alloc _ _ _ (by have := h.big; simp; omega), Below.heap_alloc _ _ _ (by have := h.big; omega)]
      exact ⟨by rw [World.cell?_of_block (w := w) (a := ⟨P, c, none⟩) e]; exact (h.own c hc).1, by rw [World.frozen?_of_block (w := w) (a := ⟨P, c, none⟩) e]; exact (h.own c hc).2⟩
    exact h0.set k _
  row := fun m hm => by
    have e : ((w.alloc (.cells #[.int .i64 (L k), .int .i64 (C k)] 30)).alloc (.cells #[.int .i64 (L k), .int .i64 (C k), .string (M k)] 55)).heap[P]? = w.heap[P]? := by
      rw [Below.heap_alloc _ _ _ (by have := h.big; simp; omega), Below.heap_alloc _ _ _ (by have := h.big; omega)]
    unfold made
    by_cases hmk : m = k
    · subst hmk
      obtain ⟨u, hu⟩ := Option.isSome_iff_exists.1 (h.own m hk).1
      rw [World.cell?_setCell_same _ _ _ ((World.cell?_of_block (w := w) (a := ⟨P, m, none⟩) e).trans hu)]
      unfold ptr; rw [upd_at]
    · rw [World.cell?_setCell_other _ _ _ _ (fun h => hmk (by injection h with _ h2; exact h2.symm)), World.cell?_of_block (w := w) (a := ⟨P, m, none⟩) e, h.row m (by omega)]
      unfold ptr; rw [upd_lt (by omega)]
  blk := fun m hm => by
    unfold Blk
    by_cases hmk : m = k
    · subst hmk
      rw [upd_at]
      unfold made
      rw [Below.heap_setCell _ _ _ _ (by have := h.big; show w.heap.size + 1 ≠ P; omega)]
      have := heap_alloc_new (w.alloc (.cells #[.int .i64 (L m), .int .i64 (C m)] 30)) (.cells #[.int .i64 (L m), .int .i64 (C m), .string (M m)] 55)
      rwa [show (w.alloc (.cells #[.int .i64 (L m), .int .i64 (C m)] 30)).heap.size = w.heap.size + 1 by simp] at this
    · have hb := h.blk m (by omega)
      rw [upd_lt (by omega), made_other (Array.getElem?_eq_some_iff.1 hb).1 (by have := h.far m (by omega); omega)]
      exact hb
  far := fun m hm => by
    by_cases hmk : m = k
    · subst hmk; rw [upd_at]; have := h.big; omega
    · rw [upd_lt (by omega)]; exact h.far m (by omega)
  inc := fun m m' h1 h2 => by
    by_cases hmk : m' = k
    · subst hmk
      rw [upd_at, upd_lt h1]
      have := (Array.getElem?_eq_some_iff.1 (h.blk m h1)).1
      omega
    · rw [upd_lt (by omega), upd_lt (by omega)]; exact h.inc m m' h1 (by omega)
  big := by rw [made_size]; have := h.big; omega

end Go.Proofs.Qxb6608988a
