/-
  wb1Clone; binary.BigEndian.AppendUint64 where it must grow; the two wrappers.
-/
import Derived.Test.Qxb6608948aKit
namespace Go.Proofs.Qxb6608948a
set_option linter.unusedSimpArgs false
set_option linter.unusedVariables false
open Go.RowKit Go.Stop

/-- A row of the call's own: q cells, all to be written. -/
def Own (B q : Nat) (w : World) : Prop := ∀ c, c < q → (w.cell? ⟨B, c, none⟩).isSome = true ∧ w.frozen? ⟨B, c, none⟩ = false
theorem Own.set {B q : Nat} {w : World} (h : Own B q w) (c : Nat) (v : Value) : Own B q (w.setCell ⟨B, c, none⟩ v) := fun d hd => by
  refine ⟨?_, by rw [World.frozen?_setCell]; exact (h d hd).2⟩
  obtain ⟨u, hu⟩ := Option.isSome_iff_exists.1 (h d hd).1
  by_cases e : c = d
  · subst e; rw [World.cell?_setCell_same _ _ _ hu]; rfl
  · rw [World.cell?_setCell_other _ _ _ _ (fun h => e (by injection h)), hu]; rfl
theorem copy_step {B n k : Nat} {F : Nat → Int} {W : World} (rO : Own B n W) (rA : ∀ m, m < k → W.cell? ⟨B, m, none⟩ = some (.int .u8 (F m))) (hk : k < n) :
    ∀ m, m < k + 1 → (W.setCell ⟨B, k, none⟩ (.int .u8 (F k))).cell? ⟨B, m, none⟩ = some (.int .u8 (F m)) := fun m hm => by
  by_cases e : m = k
  · subst e
    obtain ⟨u, hu⟩ := Option.isSome_iff_exists.1 (rO m (by omega)).1
    exact World.cell?_setCell_same _ _ _ hu
  · rw [World.cell?_setCell_other _ _ _ _ (fun h => by injection h with _ h2; omega)]
    exact rA m (by omega)

theorem Try.info5 : (Try.prog.info? 5).map (fun i => (i.zero, i.size, i.bytes)) = some (some (.int .u8 0), 1, 1) := by kernel_rfl
theorem make_bytes (n : Nat) (hn : n ≤ 2097152) : ∃ M : Array Value, M.size = n ∧ ∀ w, (Instr.makeSlice 23 (.int .i64 n) (.int .i64 n)).run Try.prog w = .ok (.slice (some ⟨w.heap.size, 0, none⟩) n n) (w.alloc (.cells M 5)) := by
  obtain ⟨i0, hi, hz0, hz1, hz2⟩ := info_parts Try.info5
  refine ⟨madeCells (Value.int .u8 0).cells n, size_madeCells _ n, fun w => ?_⟩
  have := run_make (P := Try.prog) w 23 5 i0 _ Try.underlying23 hi hz0 .i64 .i64 n n (by omega) (by omega) (by rw [hz2]; omega) (by omega)
  rw [hz1] at this
  simpa using this

set_option maxHeartbeats 1000000 in
theorem clone_nil (w : World) : Calls Try.prog 5 #[.slice none 0 0] w fun e w' => e = .returned (.slice none 0 0) ∧ w' = w := by
  have q := fun w (a : Option Addr) n c => Lib.run_eql_slice_nil (P := Try.prog) w 23 5 a n c 0 0 Try.underlying23
  go_enter Try.func5, Try.ntmps5
  go_wp2
  go_ret
  exact ⟨rfl, rfl⟩
set_option maxHeartbeats 1000000 in
theorem clone_some (x : Addr) (n c : Nat) (F : Nat → Int) (w : World) (hn : n ≤ 2097152) (r : Rd (some x) n F w) :
    Calls Try.prog 5 #[.slice (some x) n c] w fun e w' => e = .returned (.slice (some ⟨w.heap.size, 0, none⟩) n n) ∧ Ints w.heap.size 0 n F w' ∧ Below w.heap.size w w' := by
  have q := fun w (a : Option Addr) n c => Lib.run_eql_slice_nil (P := Try.prog) w 23 5 a n c 0 0 Try.underlying23
  obtain ⟨M, hM, hmk⟩ := make_bytes n hn
  have hbm : Below w.heap.size w (w.alloc (.cells M 5)) := by go_grown
  have hO : Own w.heap.size n (w.alloc (.cells M 5)) := fun c hc => by
    have h := heap_alloc_new w (.cells M 5)
    refine ⟨?_, frozen_of_row _ _ c _ _ h⟩
    rw [cell_of_row _ _ c _ _ _ h, Array.getElem?_eq_getElem (by omega)]; rfl
  go_enter Try.func5, Try.ntmps5
  go_wp2
  go_loopw [4] (fun i wr => ∃ k : Nat, k ≤ n ∧ i = .int .i64 k ∧ Own w.heap.size n wr ∧ (∀ m, m < k → wr.cell? ⟨w.heap.size, m, none⟩ = some (.int .u8 (F m))) ∧ Below w.heap.size w wr) (fun i _ => n - (intOf i).toNat)
  case atStart => exact ⟨0, by omega, rfl, hO, fun m hm => by omega, hbm⟩
  case round =>
    obtain ⟨k, hk, rfl, rO, rA, hbl⟩ := hrel
    by_cases hlt : k < n
    · have hlt' : (k : Int) < (n : Int) := by omega
      obtain ⟨b, o, e, x1⟩ := r (by omega)
      obtain rfl := Option.some.inj e
      have y1 := (x1.below hbl) k hlt
      obtain ⟨u0, k0⟩ := Option.isSome_iff_exists.1 (rO k hlt).1
      have f0 := (rO k hlt).2
      have C := copy_step rO rA hlt
      have O2 := rO.set k (.int .u8 (F k))
      clear e
      go_wp2
      go_roundw
      case rel => exact ⟨k + 1, by omega, by go_num, O2, C, hbl.setCell (Nat.le_refl _) _⟩
      case measure => simp [intOf]; omega
    · have hkn : k = n := by omega
      subst hkn
      go_wp2
      go_ret
      exact ⟨rfl, fun m hm => by rw [Nat.zero_add]; exact rA m hm, hbl⟩

/-- The clone of a slice of bytes, nil or not. -/
theorem clone_any (a : Option Addr) (n c : Nat) (F : Nat → Int) (w : World) (hn : n ≤ 2097152) (r : Rd a n F w) (hnil : a = none → n = 0 ∧ c = 0) :
    Calls Try.prog 5 #[.slice a n c] w fun e w' => ∃ a', e = .returned (.slice a' n n) ∧ Rd a' n F w' ∧ (a' = none → n = 0) ∧ Below w.heap.size w w' := by
  rcases a with _ | x
  · obtain ⟨rfl, rfl⟩ := hnil rfl
    exact (clone_nil w).mono fun e w' ⟨he, hw⟩ => ⟨none, he, fun h => by omega, fun _ => rfl, hw ▸ Below.refl _ _⟩
  · exact (clone_some x n c F w hn r).mono fun e w' ⟨he, hi, hb⟩ => ⟨_, he, fun _ => ⟨_, _, rfl, hi⟩, (fun h => by cases h), hb⟩

/-! ### append -/
/-- The cells of n bytes. -/
def row (n : Nat) (f : Nat → Int) : List Value := (List.range n).map fun m => .int .u8 (f m)
theorem row_length (n : Nat) (f : Nat → Int) : (row n f).length = n := by simp [row]
theorem row_at {n : Nat} {f : Nat → Int} {j : Nat} (hj : j < n) : (row n f)[j]? = some (.int .u8 (f j)) := by
  simp [row, List.getElem?_map, List.getElem?_range hj]
theorem row_get {n : Nat} {f : Nat → Int} {j : Nat} {v : Value} (h : (row n f)[j]? = some v) : j < n ∧ v = .int .u8 (f j) := by
  have hj : j < n := by
    rcases Nat.lt_or_ge j n with h' | h'
    · exact h'
    · rw [List.getElem?_eq_none (by simp [row_length]; exact h')] at h; cases h
  exact ⟨hj, (Option.some.inj ((row_at hj).symm.trans h)).symm⟩
/-- What stands in the grown row. -/
def joined (n : Nat) (F : Nat → Int) (v : Int) (m : Nat) : Int := if m < n then F m else byt v (m - n)
theorem joined_row (n : Nat) (F : Nat → Int) (v : Int) (m : Nat) (hm : m < n + 8) : (row n F ++ row 8 (byt v))[m]? = some (.int .u8 (joined n F v m)) := by
  unfold joined
  by_cases h : m < n
  · rw [List.getElem?_append_left (by rw [row_length]; exact h), if_pos h, row_at h]
  · rw [List.getElem?_append_right (by rw [row_length]; omega), if_neg h, row_length, row_at (by omega)]
theorem own_joined {W : World} {base n : Nat} {v : Value} {F : Nat → Int} {x : Int} (h : W.ownsRow base 5 1 v (n + 8) (row n F ++ row 8 (byt x))) :
    ∃ g cap, v = .slice (some ⟨g, 0, none⟩) (n + 8) cap ∧ n + 8 ≤ cap ∧ Ints g 0 (n + 8) (joined n F x) W := by
  obtain ⟨_, ⟨_, h0⟩ | ⟨g, cap, cur, hv, _, hh, hc, _, hs, ht⟩⟩ := h
  · omega
  · refine ⟨g, cap, hv, hc, fun m hm => ?_⟩
    rw [Nat.zero_add, cell_of_row _ _ m _ _ _ hh]
    have h1 : (cur.toList.take ((n + 8) * 1))[m]? = some (.int .u8 (joined n F x m)) := by rw [ht]; exact joined_row n F x m hm
    rw [List.getElem?_take_of_lt (by omega)] at h1
    simpa using h1

set_option maxHeartbeats 1000000 in
theorem append_any (a : Option Addr) (n : Nat) (F : Nat → Int) (v : Int) (w : World) (hn : n ≤ 1048576) (r : Rd a n F w) (hnil : a = none → n = 0) (v0 : 0 ≤ v) (v1 : v < 18446744073709551616) :
    Calls Try.prog 11 #[.agg #[], .slice a n n, .int .u64 v] w fun e w' => ∃ g cap, e = .returned (.slice (some ⟨g, 0, none⟩) (n + 8) cap) ∧ n + 8 ≤ cap ∧ Ints g 0 (n + 8) (joined n F v) w' ∧ Below w.heap.size w w' := by
  obtain ⟨i0, hi, hz0, hz1, hz2⟩ := info_parts Try.info5
  go_enter Try.func11, Try.ntmps11
  go_wp2_with (at_builtin; refine wpList_append_grows _ rfl (.tmp 7) (.tmp 31) 23 rfl 5 i0 (.int .u8 0) 1 1 Try.underlying23 hi hz0 hz1 hz2 rfl (by decide) a n n (row n F) rfl (fun h => ⟨hnil h, hnil h⟩) (by rw [row_length, Nat.mul_one]) ?qo ⟨w.heap.size + 1, 0, none⟩ 8 8 (row 8 (byt v)) rfl (by rw [row_length]) ?qn ?q1 (by omega) ?qm (by omega) ?_)
  case qo =>
    intro b hb j u hu
    obtain ⟨hj, rfl⟩ := row_get hu
    obtain ⟨b', o', e, hi'⟩ := r (by omega)
    obtain rfl := Option.some.inj (hb.symm.trans e)
    rw [Addr.add_mid]
    exact cell?_alloc_old _ (cell?_alloc_old _ (hi' j hj))
  case qn =>
    intro j u hu
    obtain ⟨hj, rfl⟩ := row_get hu
    rw [Addr.add_mid]
    rcases (by omega : j = 0 ∨ j = 1 ∨ j = 2 ∨ j = 3 ∨ j = 4 ∨ j = 5 ∨ j = 6 ∨ j = 7) with e | e | e | e | e | e | e | e <;> subst e <;> simp [go_sem, byt]
  case q1 =>
    intro u hu
    obtain ⟨m, _, rfl⟩ := List.mem_map.1 hu; rfl
  case qm => unfold maxLen; omega
  intro v' w1 hown hgrow
  obtain ⟨g, cap, rfl, hcap, hI⟩ := own_joined hown
  have hB : Below w.heap.size w w1 := Below.grown (by go_grown) hgrow (by simp; omega) (fun k h => by cases h)
  go_wp2
  go_ret
  exact ⟨g, cap, rfl, hcap, hI, hB⟩

set_option maxHeartbeats 1000000 in
theorem appendUint64_any (a : Option Addr) (n : Nat) (F : Nat → Int) (v : Int) (w : World) (hn : n ≤ 1048576) (r : Rd a n F w) (hnil : a = none → n = 0) (v0 : 0 ≤ v) (v1 : v < 18446744073709551616) :
    Calls Try.prog 10 #[.slice a n n, .int .u64 v] w fun e w' => ∃ g cap, e = .returned (.slice (some ⟨g, 0, none⟩) (n + 8) cap) ∧ n + 8 ≤ cap ∧ Ints g 0 (n + 8) (joined n F v) w' ∧ Below w.heap.size w w' := by
  go_enter Try.func10, Try.ntmps10
  go_wp2_with (go_at_call 11; refine (append_any a n F v _ hn r hnil v0 v1).mono ?_; rintro e w1 ⟨g, cap, rfl, hcap, hI, hB⟩)
  go_ret
  exact ⟨g, cap, rfl, hcap, hI, hB⟩
set_option maxHeartbeats 1000000 in
theorem appendFields_any (a : Option Addr) (n : Nat) (F : Nat → Int) (v : Int) (w : World) (hn : n ≤ 1048576) (r : Rd a n F w) (hnil : a = none → n = 0) (v0 : 0 ≤ v) (v1 : v < 18446744073709551616) :
    Calls Try.prog 9 #[.agg #[.int .u64 v], .slice a n n] w fun e w' => ∃ g cap, e = .returned (.slice (some ⟨g, 0, none⟩) (n + 8) cap) ∧ n + 8 ≤ cap ∧ Ints g 0 (n + 8) (joined n F v) w' ∧ Below w.heap.size w w' := by
  have r' := fun o => r.below ((Below.refl _ w).alloc (Nat.le_refl _) o)
  go_enter Try.func9, Try.ntmps9
  go_wp2_with (go_at_call 10; refine (appendUint64_any a n F v _ hn (r' _) hnil v0 v1).mono ?_; rintro e w1 ⟨g, cap, rfl, hcap, hI, hB⟩)
  go_ret
  exact ⟨g, cap, rfl, hcap, hI, Below.trans (by go_grown) (hB.mono (by go_size))⟩
set_option maxHeartbeats 1000000 in
theorem zappend_any (a : Option Addr) (n : Nat) (F : Nat → Int) (v : Int) (w : World) (hn : n ≤ 1048576) (r : Rd a n F w) (hnil : a = none → n = 0) (v0 : 0 ≤ v) (v1 : v < 18446744073709551616) :
    Calls Try.prog 6 #[.agg #[.int .u64 v], .slice a n n] w fun e w' => ∃ g cap, e = .returned (.slice (some ⟨g, 0, none⟩) (n + 8) cap) ∧ n + 8 ≤ cap ∧ Ints g 0 (n + 8) (joined n F v) w' ∧ Below w.heap.size w w' := by
  have r' := fun o => r.below ((Below.refl _ w).alloc (Nat.le_refl _) o)
  go_enter Try.func6, Try.ntmps6
  go_wp2_with (go_at_call 9; refine (appendFields_any a n F v _ hn (r' _) hnil v0 v1).mono ?_; rintro e w1 ⟨g, cap, rfl, hcap, hI, hB⟩)
  go_ret
  exact ⟨g, cap, rfl, hcap, hI, Below.trans (by go_grown) (hB.mono (by go_size))⟩
end Go.Proofs.Qxb6608948a
