/-
  Bytes.
-/
import Derived.Test.Qxb6608948aFmtCnt
namespace Go.Proofs.Qxb6608948aFmt
set_option linter.unusedSimpArgs false
set_option linter.unusedVariables false
open Go.RowKit

theorem take_ok (D B N p q n m : Nat) (W : World) (hm : N - p = m) (hf : Fr D W) (hq : N - p = 0 ∨ q = p) (h0 : W.cell? ⟨D, 0, none⟩ = some (.slice (some ⟨B, q, none⟩) m m)) (h1 : W.cell? ⟨D, 1, none⟩ = some .nilIface) (hn : p + n ≤ N) :
    Calls Tryf.prog 17 #[.pointer (some ⟨D, 0, none⟩), .int .i64 n] W fun e w' => e = .returned (.slice (some ⟨B, q, none⟩) n n) ∧ St D B N (some (p + n)) w' ∧ W.grownBy w' (some D) := by
  subst hm
  refine (take_good D B (N - p) q n W h0 h1 hf (by omega)).mono ?_
  rintro e w' ⟨rfl, rfl⟩
  exact ⟨rfl, St.took hf hq h0 h1 hn, grown_set _ _ _ _⟩

def bt (N : Nat) (f : Nat → UInt8) (s : Option Nat) : Option Nat := s.bind fun p => if p + 4 ≤ N ∧ be32 f p ≤ N - (p + 4) then some (p + 4 + be32 f p) else none
def BytPost (D B N : Nat) (f : Nat → UInt8) (s : Option Nat) (W : World) (e : Ending) (w' : World) : Prop :=
  ∃ a l c, e = .returned (.slice a l c) ∧ l ≤ 1048576 ∧ St D B N (bt N f s) w' ∧ W.grownBy w' (some D) ∧ ∀ p p', s = some p → bt N f s = some p' → l = be32 f p ∧ (l = 0 ∨ a = some ⟨B, p + 4, none⟩) ∧ p' = p + 4 + l

set_option maxRecDepth 8000 in
set_option maxHeartbeats 4000000 in
theorem bytes_21 (D B N : Nat) (f : Nat → UInt8) (s : Option Nat) (W : World) (he : Env D B N f W) (hst : St D B N s W) :
    Calls Tryf.prog 21 #[.pointer (some ⟨D, 0, none⟩)] W (BytPost D B N f s W) := by
  obtain ⟨hf, hs⟩ := hst
  have qn := eql_nil
  cases s with
  | none =>
    have h17 := take_bad D 4 W hs
    go_enter Tryf.func21, Tryf.ntmps21
    go_wp2_with (go_at_call 17; refine h17.mono ?_; rintro e w' ⟨rfl, hw⟩; obtain rfl := hw.symm)
    go_ret
    exact ⟨none, 0, 0, rfl, by omega, ⟨hf, hs⟩, grown_refl _ _, fun p p' h => by cases h⟩
  | some p =>
    obtain ⟨hp, ⟨q, hq, h0⟩, h1⟩ := hs
    have hse := he.sen
    by_cases hn : p + 4 ≤ N
    · have h17 := take_good D B (N - p) q 4 W h0 h1 hf (by omega)
      have hst1 := St.took (n := 4) hf hq h0 h1 hn
      obtain ⟨W1, hW1⟩ : ∃ W1, W1 = W.setCell ⟨D, 0, none⟩ (.slice (some ⟨B, if N - p = 4 then q else q + 4, none⟩) (N - p - 4) (N - p - 4)) := ⟨_, rfl⟩
      have hg1 : W.grownBy W1 (some D) := by rw [hW1]; exact grown_set _ _ _ _
      rw [← hW1] at h17 hst1
      obtain rfl : q = p := hq.resolve_left (by omega)
      have hb := (he.grown hg1).buf
      have h18 := Tryf.binary_BE_Uint32 B q 4 4 (f q) (f (q + 1)) (f (q + 2)) (f (q + 3)) W1 (by omega) (hb _ (by omega)) (hb _ (by omega)) (hb _ (by omega)) (hb _ (by omega))
      obtain ⟨x, hx⟩ : ∃ x, x = be32 f q := ⟨_, rfl⟩
      have hxl : x < 4294967296 := by rw [hx]; exact be32_lt f q
      rw [show Lib.beNat [f q, f (q + 1), f (q + 2), f (q + 3)] = x from hx.symm] at h18
      obtain ⟨t, v, hs1⟩ := (he.grown hg1).sen
      have hslt := World.block_lt_of_cell? W1 _ hs1
      have h18' : Calls Tryf.prog 18 #[.agg #[], .slice (some ⟨B, q, none⟩) 4 4] W1 fun e w' => e = .returned (.int .u32 (x : Int)) ∧ St D B N (some (q + 4)) w' ∧ w'.cell? ⟨1, 0, none⟩ = some (.iface t v) ∧ Below W1.heap.size W1 w' := h18.mono fun e w' ⟨h1, h2⟩ => ⟨h1, hst1.below h2, (h2.cell (p := ⟨1, 0, none⟩) hslt).trans hs1, h2⟩
      have h17' : Calls Tryf.prog 17 #[.pointer (some ⟨D, 0, none⟩), .int .i64 4] W fun e w' => e = .returned (.slice (some ⟨B, q, none⟩) 4 4) ∧ w' = W1 := h17
      clear hW1 h18 h17
      obtain ⟨m, hm⟩ : ∃ m, m = N - (q + 4) := ⟨_, rfl⟩
      have hN := he.lim
      have hmb : m ≤ 1048576 := by omega
      have e0 : bt N f (some q) = if x ≤ m then some (q + 4 + x) else none := by
        rw [hx, hm]; simp [bt, hn]
      have hmh : Hid (N - (q + 4) = m) := hm.symm
      have hxh : Hid (x = be32 f q) := hx
      by_cases hle : x ≤ m
      · rw [if_pos hle] at e0
        have hle' : (x : Int) ≤ (m : Int) := by omega
        have e0h : Hid (bt N f (some q) = some (q + 4 + x)) := e0
        have hxN : Hid (q + 4 + x ≤ N) := (by show q + 4 + x ≤ N; omega)
        have hxm : Hid (x ≤ 1048576) := (by show x ≤ 1048576; omega)
        clear hx hm e0 hb hn hp hq h0 h1 he hst1 hse hs1 hslt
        go_enter Tryf.func21, Tryf.ntmps21
        go_wp2_with (first
          | (go_at_call 17; with_reducible refine h17'.mono ?_; rintro e w' ⟨rfl, hw⟩; obtain rfl := hw.symm)
          | (go_at_call 18; refine h18'.mono ?_; rintro e w2 ⟨rfl, hst2, s2, hb2⟩; obtain ⟨hf2, hp2, ⟨q2, hq2, c0⟩, c1⟩ := hst2; rw [hmh.out] at c0)
          | (go_at_call 17; refine (take_ok D B N (q + 4) q2 x m w2 hmh.out hf2 hq2 c0 c1 hxN.out).mono ?_; rintro e w3 ⟨rfl, hst3, hg3⟩))
        go_ret
        refine ⟨_, x, x, rfl, hxm.out, by rw [e0h.out]; exact hst3, grown_trans (grown_trans hg1 (grown_below hb2)) hg3, fun p p' h1 h2 => ?_⟩
        injection h1 with h1
        subst h1
        rw [e0h.out] at h2
        injection h2 with h2
        refine ⟨hxh.out, ?_, h2.symm⟩
        rcases hq2 with h | h
        · left; have := hmh.out; omega
        · right; rw [h]
      · rw [if_neg hle] at e0
        have hle' : (m : Int) < (x : Int) := by omega
        have e0h : Hid (bt N f (some q) = none) := e0
        clear hx hm e0 hb hn hp hq h0 h1 he hst1 hse hs1 hslt
        go_enter Tryf.func21, Tryf.ntmps21
        go_wp2_with (first
          | (go_at_call 17; with_reducible refine h17'.mono ?_; rintro e w' ⟨rfl, hw⟩; obtain rfl := hw.symm)
          | (go_at_call 18; refine h18'.mono ?_; rintro e w2 ⟨rfl, hst2, s2, hb2⟩; obtain ⟨hf2, hp2, ⟨q2, hq2, c0⟩, c1⟩ := hst2; rw [hmh.out] at c0; have g0 := hf2.1; have g1 := hf2.2))
        go_ret
        exact ⟨none, 0, 0, rfl, by omega, by rw [e0h.out]; exact St.failed hf2 c0 c1, grown_trans (grown_trans hg1 (grown_below hb2)) (grown_set _ _ _ _), fun p p' h1 h2 => by rw [e0h.out] at h2; cases h2⟩
    · obtain ⟨t, v, hse⟩ := hse
      have h17 := take_short D 4 (N - p) _ _ t v W h0 h1 hf hse (by omega)
      have hst1 : St D B N none _ := St.failed (t := t) (v := v) hf h0 h1
      go_enter Tryf.func21, Tryf.ntmps21
      go_wp2_with (go_at_call 17; refine h17.mono ?_; rintro e w' ⟨rfl, hw⟩; obtain rfl := hw.symm)
      go_ret
      have e1 : bt N f (some p) = none := by simp [bt, hn]
      exact ⟨none, 0, 0, rfl, by omega, by rw [e1]; exact hst1, grown_set _ _ _ _, fun p p' h1 h2 => by rw [e1] at h2; cases h2⟩
end Go.Proofs.Qxb6608948aFmt
