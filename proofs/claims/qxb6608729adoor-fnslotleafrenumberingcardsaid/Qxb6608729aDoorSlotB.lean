/-
  FnSlotLeafRenumbering: the index made of three slices (ZZnewRunIndex).
-/
import Derived.Test.Qxb6608729aDoorSlotA
import Derived.Deep.RegionHeld3
import Derived.LoopTactic
namespace Go.Proofs.Qxb6608729aDoor
set_option linter.unusedSimpArgs false
set_option linter.unusedVariables false
open Go.RowKit Go.Stop

/-- n cells of integers behind an address. -/
def Ints (k : IntKind) (b o n : Nat) (f : Nat → Int) (w : World) : Prop := ∀ m, m < n → w.cell? ⟨b, o + m, none⟩ = some (.int k (f m))
theorem blk_of_cell {w : World} {a : Addr} {v : Value} (h : w.cell? a = some v) : a.block < w.heap.size := by
  rcases Nat.lt_or_ge a.block w.heap.size with h' | h'
  · exact h'
  · simp [World.cell?, Array.getElem?_eq_none h'] at h
theorem Ints.below {k : IntKind} {b o n : Nat} {f : Nat → Int} {W w1 : World} (h : Ints k b o n f W) (hb : Below W.heap.size W w1) : Ints k b o n f w1 := fun m hm =>
  (hb.cell (p := ⟨b, o + m, none⟩) (blk_of_cell (h m hm))).trans (h m hm)
/-- A row of the call's own: q cells, all to be written. -/
def Own (B q : Nat) (w : World) : Prop := ∀ c, c < q → (w.cell? ⟨B, c, none⟩).isSome = true ∧ w.frozen? ⟨B, c, none⟩ = false
theorem Own.set {B q : Nat} {w : World} (h : Own B q w) (c : Nat) (v : Value) : Own B q (w.setCell ⟨B, c, none⟩ v) := fun d hd => by
  refine ⟨?_, by rw [World.frozen?_setCell]; exact (h d hd).2⟩
  obtain ⟨u, hu⟩ := Option.isSome_iff_exists.1 (h d hd).1
  by_cases e : c = d
  · subst e; rw [World.cell?_setCell_same _ _ _ hu]; rfl
  · rw [World.cell?_setCell_other _ _ _ _ (fun h => e (by injection h)), hu]; rfl
theorem cell_set_off (w : World) (a b : Addr) (v : Value) (h : b.block ≠ a.block) : (w.setCell a v).cell? b = w.cell? b := by
  simp only [World.cell?, heap_setCell_other w a b.block v h]

theorem runs_step {B n k : Nat} {A : Nat → Int} {W : World} {v0 v1 : Value} (rO : Own B (n * 3) W) (rA : ∀ m, m < k → W.cell? ⟨B, m * 3 + 2, none⟩ = some (.int .u32 (A m))) (hk : k < n) :
    Own B (n * 3) (((W.setCell ⟨B, k * 3, none⟩ v0).setCell ⟨B, k * 3 + 1, none⟩ v1).setCell ⟨B, k * 3 + 2, none⟩ (.int .u32 (A k))) ∧
      ∀ m, m < k + 1 → (((W.setCell ⟨B, k * 3, none⟩ v0).setCell ⟨B, k * 3 + 1, none⟩ v1).setCell ⟨B, k * 3 + 2, none⟩ (.int .u32 (A k))).cell? ⟨B, m * 3 + 2, none⟩ = some (.int .u32 (A m)) := by
  have o2 := (rO.set (k * 3) v0).set (k * 3 + 1) v1
  refine ⟨o2.set _ _, fun m hm => ?_⟩
  by_cases e : m = k
  · subst e
    obtain ⟨u, hu⟩ := Option.isSome_iff_exists.1 (o2 (m * 3 + 2) (by omega)).1
    exact World.cell?_setCell_same _ _ _ hu
  · rw [World.cell?_setCell_other _ _ _ _ (fun h => by injection h with _ h2; omega), World.cell?_setCell_other _ _ _ _ (fun h => by injection h with _ h2; omega), World.cell?_setCell_other _ _ _ _ (fun h => by injection h with _ h2; omega)]
    exact rA m (by omega)
theorem Tryd.info51 : (Tryd.prog.info? 51).map (fun i => (i.zero, i.size, i.bytes)) = some (some (.agg #[.int .u64 0, .int .u64 0, .int .u32 0]), 3, 24) := by kernel_rfl
/-- make([]run, n). -/
theorem make_runs (n : Nat) (hn : n ≤ 32768) : ∃ M : Array Value, M.size = n * 3 ∧ ∀ w, (Instr.makeSlice 47 (.int .i64 n) (.int .i64 n)).run Tryd.prog w = .ok (.slice (some ⟨w.heap.size, 0, none⟩) n n) (w.alloc (.cells M 51)) := by
  obtain ⟨i0, hi, hz0, hz1, hz2⟩ := info_parts Tryd.info51
  refine ⟨madeCells (Value.agg #[.int .u64 0, .int .u64 0, .int .u32 0]).cells (n * 3), size_madeCells _ (n * 3), fun w => ?_⟩
  have := run_make (P := Tryd.prog) w 47 51 i0 _ Tryd.underlying47 hi hz0 .i64 .i64 n n (by omega) (by omega) (by rw [hz2]; omega) (by omega)
  rw [hz1] at this
  simpa using this

set_option maxRecDepth 100000 in
set_option maxHeartbeats 2000000 in
theorem newIdx_any (b1 o1 c1 b2 o2 c2 b3 o3 c3 n : Nat) (H L A : Nat → Int) (v4 : Bool) (w : World) (hn : n ≤ 32768) (x1 : Ints .u64 b1 o1 n H w) (x2 : Ints .u64 b2 o2 n L w) (x3 : Ints .u32 b3 o3 n A w) :
    Calls Tryd.prog 17 #[.slice (some ⟨b1, o1, none⟩) n c1, .slice (some ⟨b2, o2, none⟩) n c2, .slice (some ⟨b3, o3, none⟩) n c3, .bool v4] w fun e w' =>
      ∃ R B, e = .returned (.pointer (some ⟨R, 0, none⟩)) ∧ w'.cell? ⟨R, 0, none⟩ = some (.slice (some ⟨B, 0, none⟩) n n) ∧ w'.cell? ⟨R, 1, none⟩ = some (.bool v4) ∧
        (∀ m, m < n → w'.cell? ⟨B, m * 3 + 2, none⟩ = some (.int .u32 (A m))) ∧ Below w.heap.size w w' := by
  obtain ⟨M, hM, hmk⟩ := make_runs n hn
  have hbm : Below w.heap.size w (w.alloc (.cells M 51)) := by go_grown
  have hO : Own w.heap.size (n * 3) (w.alloc (.cells M 51)) := fun c hc => by
    have h := heap_alloc_new w (.cells M 51)
    refine ⟨?_, frozen_of_row _ _ c _ _ h⟩
    rw [cell_of_row _ _ c _ _ _ h, Array.getElem?_eq_getElem (by omega)]; rfl
  go_enter Tryd.func17, Tryd.ntmps17
  go_wp2
  go_loopw [16] (fun i wr => ∃ k : Nat, k ≤ n ∧ i = .int .i64 k ∧ Own w.heap.size (n * 3) wr ∧ (∀ m, m < k → wr.cell? ⟨w.heap.size, m * 3 + 2, none⟩ = some (.int .u32 (A m))) ∧ Below w.heap.size w wr) (fun i _ => n - (intOf i).toNat)
  case atStart => exact ⟨0, by omega, rfl, hO, fun m hm => by omega, hbm⟩
  case round =>
    obtain ⟨k, hk, rfl, rO, rA, hbl⟩ := hrel
    by_cases hlt : k < n
    · have hlt' : (k : Int) < (n : Int) := by omega
      have e1 := (x1.below hbl) k hlt
      have e2 := (x2.below hbl) k hlt
      have e3 := (x3.below hbl) k hlt
      have q1 := blk_of_cell (x1 k hlt)
      have q2 := blk_of_cell (x2 k hlt)
      have q3 := blk_of_cell (x3 k hlt)
      obtain ⟨u0, k0⟩ := Option.isSome_iff_exists.1 (rO (k * 3) (by omega)).1
      obtain ⟨u1, k1⟩ := Option.isSome_iff_exists.1 (rO (k * 3 + 1) (by omega)).1
      obtain ⟨u2, k2⟩ := Option.isSome_iff_exists.1 (rO (k * 3 + 2) (by omega)).1
      have f0 := (rO (k * 3) (by omega)).2
      have f1 := (rO (k * 3 + 1) (by omega)).2
      have f2 := (rO (k * 3 + 2) (by omega)).2
      have H0 : wr.drew.cell? ⟨b1, o1 + k, none⟩ = some (.int .u64 (H k)) ∧ wr.drew.cell? ⟨b2, o2 + k, none⟩ = some (.int .u64 (L k)) ∧ wr.drew.cell? ⟨b3, o3 + k, none⟩ = some (.int .u32 (A k)) := ⟨e1, e2, e3⟩
      have H1 : ∀ (w' : World) (d0 d1 d2 : Nat) (v0 v1 v2 : Value), (w'.cell? ⟨b1, o1 + k, none⟩ = some (.int .u64 (H k)) ∧ w'.cell? ⟨b2, o2 + k, none⟩ = some (.int .u64 (L k)) ∧ w'.cell? ⟨b3, o3 + k, none⟩ = some (.int .u32 (A k))) →
          ((((w'.setCell ⟨w.heap.size, d0, none⟩ v0).setCell ⟨w.heap.size, d1, none⟩ v1).setCell ⟨w.heap.size, d2, none⟩ v2).cell? ⟨b1, o1 + k, none⟩ = some (.int .u64 (H k)) ∧ (((w'.setCell ⟨w.heap.size, d0, none⟩ v0).setCell ⟨w.heap.size, d1, none⟩ v1).setCell ⟨w.heap.size, d2, none⟩ v2).cell? ⟨b2, o2 + k, none⟩ = some (.int .u64 (L k)) ∧
            (((w'.setCell ⟨w.heap.size, d0, none⟩ v0).setCell ⟨w.heap.size, d1, none⟩ v1).setCell ⟨w.heap.size, d2, none⟩ v2).cell? ⟨b3, o3 + k, none⟩ = some (.int .u32 (A k))) := fun w' d0 d1 d2 v0 v1 v2 h => by
        have n1 : b1 ≠ w.heap.size := by have : b1 < w.heap.size := q1; omega
        have n2 : b2 ≠ w.heap.size := by have : b2 < w.heap.size := q2; omega
        have n3 : b3 ≠ w.heap.size := by have : b3 < w.heap.size := q3; omega
        refine ⟨?_, ?_, ?_⟩
        · rw [cell_set_off _ _ _ _ n1, cell_set_off _ _ _ _ n1, cell_set_off _ _ _ _ n1]; exact h.1
        · rw [cell_set_off _ _ _ _ n2, cell_set_off _ _ _ _ n2, cell_set_off _ _ _ _ n2]; exact h.2.1
        · rw [cell_set_off _ _ _ _ n3, cell_set_off _ _ _ _ n3, cell_set_off _ _ _ _ n3]; exact h.2.2
      have HH0 : Hid (wr.drew.cell? ⟨b1, o1 + k, none⟩ = some (.int .u64 (H k)) ∧ wr.drew.cell? ⟨b2, o2 + k, none⟩ = some (.int .u64 (L k)) ∧ wr.drew.cell? ⟨b3, o3 + k, none⟩ = some (.int .u32 (A k))) := H0
      have HH1 := (show Hid _ from H1)
      clear H0 H1
      go_wp2
      go_region_held3 (fun w' => w'.cell? ⟨b1, o1 + k, none⟩ = some (.int .u64 (H k)) ∧ w'.cell? ⟨b2, o2 + k, none⟩ = some (.int .u64 (L k)) ∧ w'.cell? ⟨b3, o3 + k, none⟩ = some (.int .u32 (A k))) (first | exact HH0.out | exact (HH1.out _ _ _ _ _ _ _ (by assumption))) (fail)
      have RS := runs_step (W := wr) (v0 := .int .u64 (H k)) (v1 := .int .u64 (L k)) rO rA hlt
      clear HH0 HH1 e1 e2 e3 k0 k1 k2 f0 f1 f2
      go_wp2
      go_roundw
      case rel => exact ⟨k + 1, by omega, by go_num, RS.1, RS.2, by go_grown⟩
      case measure => simp [intOf]; omega
    · have hkn : k = n := by omega
      subst hkn
      clear hO hbm hmk
      go_wp2
      go_ret
      have hlt := hbl.size
      refine ⟨wr.heap.size, w.heap.size, rfl, by simp, by simp, fun m hm => ?_, by go_grown⟩
      exact cell?_alloc_old _ (rA m hm)
end Go.Proofs.Qxb6608729aDoor
