/-
  The small callees: bounds, clone, equal, the count by hand, the decoder's parts.
-/
import Derived.Test.Qxb6608948aFmtLst
import Derived.Lib.EndianBits
import Derived.Deep.QuietTactic
import Derived.BigQuiet
import Derived.Deep.Draws
import Derived.Stop.LaidErr
namespace Go.Proofs.Qxb6608948aFmt
set_option linter.unusedSimpArgs false
set_option linter.unusedVariables false
open Go.RowKit Go.Stop

def SomeBool (e : Ending) : Prop := ∃ b, e = .returned (.bool b)
theorem bytes_4 (a a' : Option Addr) (n c n' c' : Nat) (w : World) (h1 : n ≤ 9223372036854775807) (h2 : n' ≤ 9223372036854775807) :
    Calls Tryf.prog 4 #[.slice a n c, .slice a' n' c'] w fun e w' => SomeBool e ∧ w' = w := by
  go_enter Tryf.func4, Tryf.ntmps4
  go_wp2
  all_goals (go_ret; exact ⟨⟨_, rfl⟩, rfl⟩)

theorem new_7 (a : Option Addr) (n c : Nat) (w : World) :
    Calls Tryf.prog 7 #[.slice a n c] w fun e w' => e = .returned (.pointer (some ⟨w.heap.size, 0, none⟩)) ∧ w' = w.alloc (.cells #[.slice a n c, .nilIface] 42) := by
  go_enter Tryf.func7, Tryf.ntmps7
  go_wp2
  go_ret
  exact ⟨rfl, rfl⟩
theorem err_9 (D : Nat) (v : Value) (w : World) (h : w.cell? ⟨D, 1, none⟩ = some v) :
    Calls Tryf.prog 9 #[.pointer (some ⟨D, 0, none⟩)] w fun e w' => e = .returned v ∧ w' = w := by
  go_enter Tryf.func9, Tryf.ntmps9
  go_wp2
  go_ret
  exact ⟨rfl, rfl⟩
theorem rest_11 (D : Nat) (v : Value) (w : World) (h : w.cell? ⟨D, 0, none⟩ = some v) :
    Calls Tryf.prog 11 #[.pointer (some ⟨D, 0, none⟩)] w fun e w' => e = .returned v ∧ w' = w := by
  go_enter Tryf.func11, Tryf.ntmps11
  go_wp2
  go_ret
  exact ⟨rfl, rfl⟩
theorem dec_8 {Post : Ending → World → Prop} (v : Value) (w : World) (h : Calls Tryf.prog 13 #[v] w fun e w' => ∃ u, e = .returned u ∧ Post e w') :
    Calls Tryf.prog 8 #[v] w fun e w' => ∃ u, e = .returned u ∧ Post e w' := by
  go_enter Tryf.func8, Tryf.ntmps8
  go_wp2_with (go_at_call 13; refine h.mono ?_; rintro e w' ⟨u, rfl, hp⟩)
  go_ret
  exact ⟨u, rfl, hp⟩

theorem or_comm32 (x y : Int) : bits .or .u32 x y = bits .or .u32 y x := by simp [bits, Nat.or_comm, BitVec.or_comm]
theorem be_val (a b c d : Nat) (ha : a < 256) (hb : b < 256) (hc : c < 256) (hd : d < 256) :
    bits .or .u32 (bits .or .u32 (bits .or .u32 (IntKind.u32.wrap (IntKind.u32.wrap (a : Int) * 16777216)) (IntKind.u32.wrap (IntKind.u32.wrap (b : Int) * 65536))) (IntKind.u32.wrap (IntKind.u32.wrap (c : Int) * 256))) (IntKind.u32.wrap (d : Int)) = (d : Int) + (c : Int) * 256 + (b : Int) * 65536 + (a : Int) * 16777216 := by
  rw [u32_wrap_id (x := (a : Int)) (by omega) (by omega), u32_wrap_id (x := (b : Int)) (by omega) (by omega), u32_wrap_id (x := (c : Int)) (by omega) (by omega), u32_wrap_id (x := (d : Int)) (by omega) (by omega), u32_wrap_id (x := (a : Int) * 16777216) (by omega) (by omega), u32_wrap_id (x := (b : Int) * 65536) (by omega) (by omega), u32_wrap_id (x := (c : Int) * 256) (by omega) (by omega)]
  have g1 : bits .or .u32 ((a : Int) * 16777216) ((b : Int) * 65536) = (b : Int) * 65536 + (a : Int) * 16777216 := (or_comm32 _ _).trans (u32_or24 _ _ (by omega) (by omega) (by omega) (by omega) (by omega))
  have g2 : bits .or .u32 ((b : Int) * 65536 + (a : Int) * 16777216) ((c : Int) * 256) = (c : Int) * 256 + ((b : Int) * 65536 + (a : Int) * 16777216) := (or_comm32 _ _).trans (u32_or16 _ _ (by omega) (by omega) (by omega) (by omega) (by omega))
  have g3 : bits .or .u32 ((c : Int) * 256 + ((b : Int) * 65536 + (a : Int) * 16777216)) (d : Int) = (d : Int) + ((c : Int) * 256 + ((b : Int) * 65536 + (a : Int) * 16777216)) := (or_comm32 _ _).trans (u32_or8 _ _ (by omega) (by omega) (by omega) (by omega) (by omega))
  rw [g1, g2, g3]
  omega
set_option maxHeartbeats 2000000 in
theorem be_at (B n c i i1 i2 i3 : Nat) (f : Nat → UInt8) (w : World) (e1 : i1 = i + 1) (e2 : i2 = i + 2) (e3 : i3 = i + 3) (hn : i3 < n) (hl : n ≤ 1048576) (h : Buf B n f w) :
    Calls Tryf.prog 6 #[.slice (some ⟨B, 0, none⟩) n c, .int .i64 (i : Int)] w fun e w' => e = .returned (.int .u32 ((be32 f i : Nat) : Int)) ∧ Below w.heap.size w w' := by
  have HS : Hid (w.drew.cell? ⟨B, i, none⟩ = some (.int .u8 ((f i).toNat : Int)) ∧ w.drew.cell? ⟨B, i1, none⟩ = some (.int .u8 ((f i1).toNat : Int)) ∧ w.drew.cell? ⟨B, i2, none⟩ = some (.int .u8 ((f i2).toNat : Int)) ∧ w.drew.cell? ⟨B, i3, none⟩ = some (.int .u8 ((f i3).toNat : Int))) := ⟨h i (by omega), h i1 (by omega), h i2 (by omega), h i3 (by omega)⟩
  have h0 := (f i).toNat_lt
  have h1 := (f i1).toNat_lt
  have h2 := (f i2).toNat_lt
  have h3 := (f i3).toNat_lt
  have hn0 : (i : Int) < (n : Int) := by omega
  have hn1 : (i1 : Int) < (n : Int) := by omega
  have hn2 : (i2 : Int) < (n : Int) := by omega
  have hn3 : (i3 : Int) < (n : Int) := by omega
  have hw1 : IntKind.i64.wrap ((i : Int) + 1) = (i1 : Int) := by rw [IntKind.wrap_i64]; omega
  have hw2 : IntKind.i64.wrap ((i : Int) + 2) = (i2 : Int) := by rw [IntKind.wrap_i64]; omega
  have hw3 : IntKind.i64.wrap ((i : Int) + 3) = (i3 : Int) := by rw [IntKind.wrap_i64]; omega
  have hvn : be32 f i = (f i3).toNat + (f i2).toNat * 256 + (f i1).toNat * 65536 + (f i).toNat * 16777216 := by
    rw [e1, e2, e3]
    unfold be32 Lib.beNat
    simp only [Lib.beFrom]
    omega
  have hv : Hid (((be32 f i : Nat) : Int) = ((f i3).toNat : Int) + ((f i2).toNat : Int) * 256 + ((f i1).toNat : Int) * 65536 + ((f i).toNat : Int) * 16777216) := (by show ((be32 f i : Nat) : Int) = _; omega)
  clear hvn h e1 e2 e3
  go_enter Tryf.func6, Tryf.ntmps6
  go_wp2
  go_region_held3 (fun W => W.cell? ⟨B, i, none⟩ = some (.int .u8 ((f i).toNat : Int)) ∧ W.cell? ⟨B, i1, none⟩ = some (.int .u8 ((f i1).toNat : Int)) ∧ W.cell? ⟨B, i2, none⟩ = some (.int .u8 ((f i2).toNat : Int)) ∧ W.cell? ⟨B, i3, none⟩ = some (.int .u8 ((f i3).toNat : Int)))
    (exact HS.out)
    ((fail))
  go_wp2
  go_ret
  refine ⟨?_, (Below.refl _ _).drew⟩
  exact congrArg (fun z => Ending.returned (Value.int IntKind.u32 z)) ((be_val _ _ _ _ h0 h1 h2 h3).trans hv.out.symm)
/-- n bytes behind an address. -/
def Ints (b o n : Nat) (f : Nat → Int) (w : World) : Prop := ∀ m, m < n → w.cell? ⟨b, o + m, none⟩ = some (.int .u8 (f m))
theorem blk_of_cell {w : World} {a : Addr} {v : Value} (h : w.cell? a = some v) : a.block < w.heap.size := by
  rcases Nat.lt_or_ge a.block w.heap.size with h' | h'
  · exact h'
  · simp [World.cell?, Array.getElem?_eq_none h'] at h
theorem Ints.below {b o n : Nat} {f : Nat → Int} {W w1 : World} (h : Ints b o n f W) (hb : Below W.heap.size W w1) : Ints b o n f w1 := fun m hm =>
  (hb.cell (p := ⟨b, o + m, none⟩) (blk_of_cell (h m hm))).trans (h m hm)
/-- What is known of a slice of n bytes that is read. -/
def Rd (a : Option Addr) (n : Nat) (f : Nat → Int) (w : World) : Prop := 0 < n → ∃ b o, a = some ⟨b, o, none⟩ ∧ Ints b o n f w
theorem Rd.below {a : Option Addr} {n : Nat} {f : Nat → Int} {W w1 : World} (h : Rd a n f W) (hb : Below W.heap.size W w1) : Rd a n f w1 := fun hn => by
  obtain ⟨b, o, e, hi⟩ := h hn
  exact ⟨b, o, e, hi.below hb⟩


/-! ### wb1Equal -/
set_option maxHeartbeats 1000000 in
theorem equal_walk (b1 o1 c1 b2 o2 c2 n : Nat) (F G : Nat → Int) (w : World) (hn : n ≤ 2097152) (x1 : Ints b1 o1 n F w) (x2 : Ints b2 o2 n G w) (he : ∀ m, m < n → F m = G m) :
    Calls Tryf.prog 12 #[.slice (some ⟨b1, o1, none⟩) n c1, .slice (some ⟨b2, o2, none⟩) n c2] w fun e w' => e = .returned (.bool true) ∧ Below w.heap.size w w' := by
  go_enter Tryf.func12, Tryf.ntmps12
  go_wp2
  go_loopw [5] (fun i wr => ∃ k : Nat, k ≤ n ∧ i = .int .i64 k ∧ Below w.heap.size w wr) (fun i _ => n - (intOf i).toNat)
  case atStart => exact ⟨0, by omega, rfl, Below.refl _ _⟩
  case round =>
    obtain ⟨k, hk, rfl, hbl⟩ := hrel
    by_cases hlt : k < n
    · have hlt' : (k : Int) < (n : Int) := by omega
      have y1 := (x1.below hbl) k hlt
      have y2 := (x2.below hbl) k hlt
      rw [← he k hlt] at y2
      go_wp2
      go_quiet (fail)
      go_wp2
      go_roundw
      case rel => exact ⟨k + 1, by omega, by go_num, ⟨hbl.os, hbl.tape, hbl.output, hbl.size, hbl.block⟩⟩
      case measure => simp [intOf]; omega
    · go_wp2
      go_ret
      exact ⟨rfl, hbl⟩
set_option maxHeartbeats 1000000 in
theorem equal_none (a1 a2 : Option Addr) (c1 c2 : Nat) (w : World) :
    Calls Tryf.prog 12 #[.slice a1 0 c1, .slice a2 0 c2] w fun e w' => e = .returned (.bool true) ∧ Below w.heap.size w w' := by
  go_enter Tryf.func12, Tryf.ntmps12
  go_wp2
  refine wp_loop_rounds 1 ?_
  rw [rounds_succ]
  go_wp2
  go_ret
  exact ⟨rfl, Below.refl _ _⟩
theorem equal_any (a1 a2 : Option Addr) (c1 c2 n : Nat) (F G : Nat → Int) (w : World) (hn : n ≤ 2097152) (x1 : Rd a1 n F w) (x2 : Rd a2 n G w) (he : ∀ m, m < n → F m = G m) :
    Calls Tryf.prog 12 #[.slice a1 n c1, .slice a2 n c2] w fun e w' => e = .returned (.bool true) ∧ Below w.heap.size w w' := by
  rcases Nat.eq_zero_or_pos n with h | h
  · subst h; exact equal_none a1 a2 c1 c2 w
  · obtain ⟨b1, o1, rfl, y1⟩ := x1 h
    obtain ⟨b2, o2, rfl, y2⟩ := x2 h
    exact equal_walk b1 o1 c1 b2 o2 c2 n F G w hn y1 y2 he


/-- A row of the call's own: q cells, all to be written. -/
def Own (B q : Nat) (w : World) : Prop := ∀ c, c < q → (w.cell? ⟨B, c, none⟩).isSome = true ∧ w.frozen? ⟨B, c, none⟩ = false
theorem Own.set {B q : Nat} {w : World} (h : Own B q w) (c : Nat) (v : Value) : Own B q (w.setCell ⟨B, c, none⟩ v) := fun d hd => by
  refine ⟨?_, by rw [World.frozen?_setCell]; exact (h d hd).2⟩
  obtain ⟨u, hu⟩ := Option.isSome_iff_exists.1 (h d hd).1
  by_cases e : c = d
  · subst e; rw [World.cell?_setCell_same _ _ _ hu]; rfl
  · rw [World.cell?_setCell_other _ _ _ _ (fun h => e (by injection h)), hu]; rfl
theorem copy_step {B n k : Nat} {F : Nat → Int} {W : World} (rO : Own B n W) (rA : ∀ m, m < k → W.cell? ⟨B, m, none⟩ = some (.int .u8 (F m))) (hk : k < n) :
    ∀ m, m < k + 1 → (W.setCell ⟨B, k, none⟩ (.int .u8 (F k))).cell? ⟨B, m, none⟩ = some (.int .u8 (F m)) := fun m hm => by
  by_cases e : m = k
  · subst e
    obtain ⟨u, hu⟩ := Option.isSome_iff_exists.1 (rO m (by omega)).1
    exact World.cell?_setCell_same _ _ _ hu
  · rw [World.cell?_setCell_other _ _ _ _ (fun h => by injection h with _ h2; omega)]
    exact rA m (by omega)

theorem info5 : (Tryf.prog.info? 5).map (fun i => (i.zero, i.size, i.bytes)) = some (some (.int .u8 0), 1, 1) := by kernel_rfl
theorem make_bytes (n : Nat) (hn : n ≤ 2097152) : ∃ M : Array Value, M.size = n ∧ ∀ w, (Instr.makeSlice 22 (.int .i64 n) (.int .i64 n)).run Tryf.prog w = .ok (.slice (some ⟨w.heap.size, 0, none⟩) n n) (w.alloc (.cells M 5)) := by
  obtain ⟨i0, hi, hz0, hz1, hz2⟩ := info_parts info5
  refine ⟨madeCells (Value.int .u8 0).cells n, size_madeCells _ n, fun w => ?_⟩
  have := run_make (P := Tryf.prog) w 22 5 i0 _ Tryf.underlying22 hi hz0 .i64 .i64 n n (by omega) (by omega) (by rw [hz2]; omega) (by omega)
  rw [hz1] at this
  simpa using this

set_option maxHeartbeats 1000000 in
theorem clone_nil (w : World) : Calls Tryf.prog 5 #[.slice none 0 0] w fun e w' => e = .returned (.slice none 0 0) ∧ w' = w := by
  have q := fun w (a : Option Addr) n c => Lib.run_eql_slice_nil (P := Tryf.prog) w 22 5 a n c 0 0 Tryf.underlying22
  go_enter Tryf.func5, Tryf.ntmps5
  go_wp2
  go_ret
  exact ⟨rfl, rfl⟩
set_option maxHeartbeats 1000000 in
theorem clone_some (x : Addr) (n c : Nat) (F : Nat → Int) (w : World) (hn : n ≤ 2097152) (r : Rd (some x) n F w) :
    Calls Tryf.prog 5 #[.slice (some x) n c] w fun e w' => e = .returned (.slice (some ⟨w.heap.size, 0, none⟩) n n) ∧ Ints w.heap.size 0 n F w' ∧ Below w.heap.size w w' := by
  have q := fun w (a : Option Addr) n c => Lib.run_eql_slice_nil (P := Tryf.prog) w 22 5 a n c 0 0 Tryf.underlying22
  obtain ⟨M, hM, hmk⟩ := make_bytes n hn
  have hbm : Below w.heap.size w (w.alloc (.cells M 5)) := by go_grown
  have hO : Own w.heap.size n (w.alloc (.cells M 5)) := fun c hc => by
    have h := heap_alloc_new w (.cells M 5)
    refine ⟨?_, frozen_of_row _ _ c _ _ h⟩
    rw [cell_of_row _ _ c _ _ _ h, Array.getElem?_eq_getElem (by omega)]; rfl
  go_enter Tryf.func5, Tryf.ntmps5
  go_wp2
  go_loopw [4] (fun i wr => ∃ k : Nat, k ≤ n ∧ i = .int .i64 k ∧ Own w.heap.size n wr ∧ (∀ m, m < k → wr.cell? ⟨w.heap.size, m, none⟩ = some (.int .u8 (F m))) ∧ Below w.heap.size w wr) (fun i _ => n - (intOf i).toNat)
  case atStart => exact ⟨0, by omega, rfl, hO, fun m hm => by omega, hbm⟩
  case round =>
    obtain ⟨k, hk, rfl, rO, rA, hbl⟩ := hrel
    by_cases hlt : k < n
    · have hlt' : (k : Int) < (n : Int) := by omega
      obtain ⟨b, o, e, x1⟩ := r (by omega)
      obtain rfl := Option.some.inj e
      have y1 := (x1.below hbl) k hlt
      obtain ⟨u0, k0⟩ := Option.isSome_iff_exists.1 (rO k hlt).1
      have f0 := (rO k hlt).2
      have C := copy_step rO rA hlt
      have O2 := rO.set k (.int .u8 (F k))
      clear e
      go_wp2
      go_roundw
      case rel => exact ⟨k + 1, by omega, by go_num, O2, C, hbl.setCell (Nat.le_refl _) _⟩
      case measure => simp [intOf]; omega
    · have hkn : k = n := by omega
      subst hkn
      go_wp2
      go_ret
      exact ⟨rfl, fun m hm => by rw [Nat.zero_add]; exact rA m hm, hbl⟩

/-- The clone of a slice of bytes, nil or not. -/
theorem clone_any (a : Option Addr) (n c : Nat) (F : Nat → Int) (w : World) (hn : n ≤ 2097152) (r : Rd a n F w) (hnil : a = none → n = 0 ∧ c = 0) :
    Calls Tryf.prog 5 #[.slice a n c] w fun e w' => ∃ a', e = .returned (.slice a' n n) ∧ Rd a' n F w' ∧ (a' = none → n = 0) ∧ Below w.heap.size w w' := by
  rcases a with _ | x
  · obtain ⟨rfl, rfl⟩ := hnil rfl
    exact (clone_nil w).mono fun e w' ⟨he, hw⟩ => ⟨none, he, fun h => by omega, fun _ => rfl, hw ▸ Below.refl _ _⟩
  · exact (clone_some x n c F w hn r).mono fun e w' ⟨he, hi, hb⟩ => ⟨_, he, fun _ => ⟨_, _, rfl, hi⟩, (fun h => by cases h), hb⟩

end Go.Proofs.Qxb6608948aFmt
