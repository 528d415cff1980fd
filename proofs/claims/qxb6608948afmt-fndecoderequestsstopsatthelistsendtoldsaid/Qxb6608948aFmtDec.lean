/-
  The decoder in memory; take.
-/
import Derived.Test.Qxb6608948aFmtRows
import Derived.Test.Qxb6608948aFmtShelf
import Derived.WalkKit
import Derived.WalkLawsBesides
import Derived.WalkSpells
import Derived.LoopTactic
import Derived.Handy
import Derived.Deep.RegionHeld3
import Derived.Deep.LoopGhost
import Derived.Laws.OwnMore
namespace Go.Proofs.Qxb6608948aFmt
set_option linter.unusedSimpArgs false
set_option linter.unusedVariables false
open Go.RowKit

theorem eql_nil (w : World) (a : Option Addr) (n c : Nat) : (binOp .eql 22 (.slice a n c) (.slice none 0 0)).run Tryf.prog w = .ok (.bool a.isNone) w := Lib.run_eql_slice_nil (P := Tryf.prog) w 22 5 a n c 0 0 Tryf.underlying22
/-- The buffer's bytes. -/
def Buf (B N : Nat) (f : Nat → UInt8) (W : World) : Prop := ∀ k, k < N → W.cell? ⟨B, k, none⟩ = some (.int .u8 ((f k).toNat : Int))
/-- The decoder's cells may be written. -/
def Fr (D : Nat) (W : World) : Prop := W.frozen? ⟨D, 0, none⟩ = false ∧ W.frozen? ⟨D, 1, none⟩ = false
def Good (D B N p : Nat) (W : World) : Prop := (∃ q, (N - p = 0 ∨ q = p) ∧ W.cell? ⟨D, 0, none⟩ = some (.slice (some ⟨B, q, none⟩) (N - p) (N - p))) ∧ W.cell? ⟨D, 1, none⟩ = some .nilIface
def Bad (D : Nat) (W : World) : Prop := (∃ a l c, W.cell? ⟨D, 0, none⟩ = some (.slice a l c)) ∧ ∃ t v, W.cell? ⟨D, 1, none⟩ = some (.iface t v)
def Sen (W : World) : Prop := ∃ t v, W.cell? ⟨1, 0, none⟩ = some (.iface t v)

theorem take_bad (D n : Nat) (W : World) (h : Bad D W) :
    Calls Tryf.prog 17 #[.pointer (some ⟨D, 0, none⟩), .int .i64 n] W fun e w' => e = .returned (.slice none 0 0) ∧ w' = W := by
  obtain ⟨⟨a, l, c, h0⟩, t, v, h1⟩ := h
  go_enter Tryf.func17, Tryf.ntmps17
  go_wp2
  go_ret
  exact ⟨rfl, rfl⟩

theorem take_short (D n m : Nat) (a : Option Addr) (c : Nat) (t : TypeId) (v : Value) (W : World) (h0 : W.cell? ⟨D, 0, none⟩ = some (.slice a m c)) (h1 : W.cell? ⟨D, 1, none⟩ = some .nilIface) (f : Fr D W) (hs : W.cell? ⟨1, 0, none⟩ = some (.iface t v)) (hm : m < n) :
    Calls Tryf.prog 17 #[.pointer (some ⟨D, 0, none⟩), .int .i64 n] W fun e w' => e = .returned (.slice none 0 0) ∧ w' = W.setCell ⟨D, 1, none⟩ (.iface t v) := by
  obtain ⟨f0, f1⟩ := f
  have hm' : (m : Int) < (n : Int) := by omega
  go_enter Tryf.func17, Tryf.ntmps17
  go_wp2
  go_ret
  exact ⟨rfl, rfl⟩

theorem take_good (D B m q n : Nat) (W : World) (h0 : W.cell? ⟨D, 0, none⟩ = some (.slice (some ⟨B, q, none⟩) m m)) (h1 : W.cell? ⟨D, 1, none⟩ = some .nilIface) (f : Fr D W) (hn : n ≤ m) :
    Calls Tryf.prog 17 #[.pointer (some ⟨D, 0, none⟩), .int .i64 n] W fun e w' => e = .returned (.slice (some ⟨B, q, none⟩) n n) ∧ w' = W.setCell ⟨D, 0, none⟩ (.slice (some ⟨B, if m = n then q else q + n, none⟩) (m - n) (m - n)) := by
  obtain ⟨f0, f1⟩ := f
  have hn' : (n : Int) ≤ (m : Int) := by omega
  by_cases hmn : m = n
  · subst hmn
    go_enter Tryf.func17, Tryf.ntmps17
    go_wp2
    all_goals first
      | (go_ret; exact ⟨rfl, by simp⟩)
  · have hmn' : (n : Int) < (m : Int) := by omega
    have hz : m - n ≠ 0 := by omega
    go_enter Tryf.func17, Tryf.ntmps17
    go_wp2
    all_goals first
      | (go_ret; exact ⟨rfl, by simp [hmn]⟩)
      | omega

/-- The decoder's state: good at p, or failed. -/
def St (D B N : Nat) (s : Option Nat) (W : World) : Prop := Fr D W ∧ match s with
  | some p => p ≤ N ∧ Good D B N p W
  | none => Bad D W
/-- What the decoder stands on. -/
structure Env (D B N : Nat) (f : Nat → UInt8) (W : World) : Prop where
  buf : Buf B N f W
  sen : Sen W
  ne : B ≠ D
  one : 1 ≠ D
  lim : N ≤ 1048576
def tk (N n : Nat) (s : Option Nat) : Option Nat := s.bind fun p => if p + n ≤ N then some (p + n) else none

theorem Env.grown {D B N : Nat} {f : Nat → UInt8} {W W' : World} (h : Env D B N f W) (hg : W.grownBy W' (some D)) : Env D B N f W' where
  buf := fun k hk => by
    have hlt := World.block_lt_of_cell? W _ (h.buf k hk)
    rw [World.cell?_of_block (w := W) (a := ⟨B, k, none⟩) (hg.block B hlt (fun e => h.ne (by injection e)))]
    exact h.buf k hk
  sen := by
    obtain ⟨t, v, hs⟩ := h.sen
    have hlt := World.block_lt_of_cell? W _ hs
    exact ⟨t, v, by rw [World.cell?_of_block (w := W) (a := ⟨1, 0, none⟩) (hg.block 1 hlt (fun e => h.one (by injection e)))]; exact hs⟩
  ne := h.ne
  one := h.one
  lim := h.lim

theorem grown_set (D c : Nat) (v : Value) (W : World) : W.grownBy (W.setCell ⟨D, c, none⟩ v) (some D) :=
  ⟨rfl, rfl, rfl, by simp, fun b hb hne => Below.heap_setCell _ _ _ _ (fun e => hne (by rw [e]))⟩
theorem grown_refl (D : Nat) (W : World) : W.grownBy W (some D) := ⟨rfl, rfl, rfl, Nat.le_refl _, fun _ _ _ => rfl⟩
theorem grown_trans {D : Nat} {W W1 W2 : World} (h : W.grownBy W1 (some D)) (k : W1.grownBy W2 (some D)) : W.grownBy W2 (some D) :=
  ⟨k.os.trans h.os, k.tape.trans h.tape, k.output.trans h.output, Nat.le_trans h.size k.size, fun b hb hne => (k.block b (Nat.lt_of_lt_of_le hb h.size) hne).trans (h.block b hb hne)⟩
theorem grown_below {D : Nat} {W W1 : World} (h : Below W.heap.size W W1) : W.grownBy W1 (some D) :=
  ⟨h.os, h.tape, h.output, h.size, fun b hb _ => h.block b hb⟩

theorem Fr.set {D : Nat} {W : World} (h : Fr D W) (c : Nat) (v : Value) : Fr D (W.setCell ⟨D, c, none⟩ v) := ⟨by rw [World.frozen?_setCell]; exact h.1, by rw [World.frozen?_setCell]; exact h.2⟩
theorem Fr.below {D : Nat} {W W' : World} (h : Fr D W) (hb : Below W.heap.size W W') (hD : D < W.heap.size) : Fr D W' :=
  ⟨by rw [World.frozen?_of_block (w := W) (a := ⟨D, 0, none⟩) (hb.block D hD)]; exact h.1, by rw [World.frozen?_of_block (w := W) (a := ⟨D, 1, none⟩) (hb.block D hD)]; exact h.2⟩
theorem St.lt {D B N : Nat} {s : Option Nat} {W : World} (h : St D B N s W) : D < W.heap.size := by
  obtain ⟨_, h⟩ := h
  cases s with
  | none => exact World.block_lt_of_cell? W ⟨D, 0, none⟩ h.1.choose_spec.choose_spec.choose_spec
  | some p => exact World.block_lt_of_cell? W ⟨D, 1, none⟩ h.2.2
theorem St.below {D B N : Nat} {s : Option Nat} {W W' : World} (h : St D B N s W) (hb : Below W.heap.size W W') : St D B N s W' := by
  have hlt := h.lt
  obtain ⟨hf, h⟩ := h
  refine ⟨hf.below hb hlt, ?_⟩
  have c0 := hb.cell (p := ⟨D, 0, none⟩) hlt
  have c1 := hb.cell (p := ⟨D, 1, none⟩) hlt
  cases s with
  | none =>
    obtain ⟨⟨a, l, c, h0⟩, t, v, h1⟩ := h
    exact ⟨⟨a, l, c, c0.trans h0⟩, t, v, c1.trans h1⟩
  | some p =>
    obtain ⟨hp, ⟨q, hq, h0⟩, h1⟩ := h
    exact ⟨hp, ⟨q, hq, c0.trans h0⟩, c1.trans h1⟩

/-- The state behind a good take. -/
theorem St.took {D B N p q n : Nat} {W : World} (hf : Fr D W) (hq : N - p = 0 ∨ q = p) (h0 : W.cell? ⟨D, 0, none⟩ = some (.slice (some ⟨B, q, none⟩) (N - p) (N - p))) (h1 : W.cell? ⟨D, 1, none⟩ = some .nilIface) (hn : p + n ≤ N) :
    St D B N (some (p + n)) (W.setCell ⟨D, 0, none⟩ (.slice (some ⟨B, if N - p = n then q else q + n, none⟩) (N - p - n) (N - p - n))) := by
  refine ⟨hf.set _ _, hn, ⟨if N - p = n then q else q + n, ?_, ?_⟩, ?_⟩
  · by_cases e : N - p = n
    · left; omega
    · right; rw [if_neg e]; omega
  · rw [World.cell?_setCell_same _ _ _ h0, show N - (p + n) = N - p - n by omega]
  · rw [World.cell?_setCell_other _ _ _ _ (by simp), h1]
/-- The state behind a failure. -/
theorem St.failed {D B N : Nat} {a : Option Addr} {l c : Nat} {u : Value} {t : TypeId} {v : Value} {W : World} (hf : Fr D W) (h0 : W.cell? ⟨D, 0, none⟩ = some (.slice a l c)) (h1 : W.cell? ⟨D, 1, none⟩ = some u) :
    St D B N none (W.setCell ⟨D, 1, none⟩ (.iface t v)) :=
  ⟨hf.set _ _, ⟨a, l, c, by rw [World.cell?_setCell_other _ _ _ _ (by simp), h0]⟩, t, v, World.cell?_setCell_same _ _ _ h1⟩

def be32 (f : Nat → UInt8) (p : Nat) : Nat := Lib.beNat [f p, f (p + 1), f (p + 2), f (p + 3)]
def be64 (f : Nat → UInt8) (p : Nat) : Nat := Lib.beNat [f p, f (p + 1), f (p + 2), f (p + 3), f (p + 4), f (p + 5), f (p + 6), f (p + 7)]

def U64Post (D B N : Nat) (f : Nat → UInt8) (s : Option Nat) (W : World) (e : Ending) (w' : World) : Prop :=
  ∃ v : Nat, e = .returned (.int .u64 (v : Int)) ∧ St D B N (tk N 8 s) w' ∧ W.grownBy w' (some D) ∧ ∀ p, tk N 8 s = some p → v = be64 f (p - 8)

set_option maxHeartbeats 1000000 in
theorem uint64_20 (D B N : Nat) (f : Nat → UInt8) (s : Option Nat) (W : World) (he : Env D B N f W) (hst : St D B N s W) :
    Calls Tryf.prog 20 #[.pointer (some ⟨D, 0, none⟩)] W (U64Post D B N f s W) := by
  obtain ⟨hf, hs⟩ := hst
  cases s with
  | none =>
    have h17 := take_bad D 8 W hs
    have qn := eql_nil
    go_enter Tryf.func20, Tryf.ntmps20
    go_wp2_with (go_at_call 17; refine h17.mono ?_; rintro e w' ⟨rfl, hw⟩; obtain rfl := hw.symm)
    go_ret
    exact ⟨0, rfl, ⟨hf, hs⟩, grown_refl _ _, fun p h => by cases h⟩
  | some p =>
    obtain ⟨hp, ⟨q, hq, h0⟩, h1⟩ := hs
    by_cases hn : p + 8 ≤ N
    · have h17 := take_good D B (N - p) q 8 W h0 h1 hf (by omega)
      have hst1 := St.took (n := 8) hf hq h0 h1 hn
      obtain ⟨W1, hW1⟩ : ∃ W1, W1 = W.setCell ⟨D, 0, none⟩ (.slice (some ⟨B, if N - p = 8 then q else q + 8, none⟩) (N - p - 8) (N - p - 8)) := ⟨_, rfl⟩
      have hg1 : W.grownBy W1 (some D) := by rw [hW1]; exact grown_set _ _ _ _
      rw [← hW1] at h17 hst1
      obtain rfl : q = p := hq.resolve_left (by omega)
      have hb := (he.grown hg1).buf
      have h24 := Tryf.binary_BE_Uint64 B q 8 8 (f q) (f (q + 1)) (f (q + 2)) (f (q + 3)) (f (q + 4)) (f (q + 5)) (f (q + 6)) (f (q + 7)) W1 (by omega) (hb _ (by omega)) (hb _ (by omega)) (hb _ (by omega)) (hb _ (by omega)) (hb _ (by omega)) (hb _ (by omega)) (hb _ (by omega)) (hb _ (by omega))
      clear hW1
      have qn := eql_nil
      go_enter Tryf.func20, Tryf.ntmps20
      go_wp2_with (first
        | (go_at_call 17; refine h17.mono ?_; rintro e w' ⟨rfl, hw⟩; obtain rfl := hw.symm)
        | (go_at_call 24; refine h24.mono ?_; rintro e w2 ⟨rfl, hb2⟩))
      go_ret
      refine ⟨_, rfl, ?_, grown_trans hg1 (grown_below hb2), fun p' hp' => ?_⟩
      · have e1 : tk N 8 (some q) = some (q + 8) := by simp [tk, hn]
        rw [e1]; exact hst1.below hb2
      · have e1 : tk N 8 (some q) = some (q + 8) := by simp [tk, hn]
        rw [e1] at hp'
        injection hp' with hp'
        subst hp'
        rw [Nat.add_sub_cancel]; rfl
    · obtain ⟨t, v, hse⟩ := he.sen
      have h17 := take_short D 8 (N - p) _ _ t v W h0 h1 hf hse (by omega)
      have hst1 : St D B N none _ := St.failed (t := t) (v := v) hf h0 h1
      have qn := eql_nil
      go_enter Tryf.func20, Tryf.ntmps20
      go_wp2_with (go_at_call 17; refine h17.mono ?_; rintro e w' ⟨rfl, hw⟩; obtain rfl := hw.symm)
      go_ret
      have e1 : tk N 8 (some p) = none := by simp [tk, hn]
      exact ⟨0, rfl, by rw [e1]; exact hst1, grown_set _ _ _ _, fun p' h => by rw [e1] at h; cases h⟩
end Go.Proofs.Qxb6608948aFmt
