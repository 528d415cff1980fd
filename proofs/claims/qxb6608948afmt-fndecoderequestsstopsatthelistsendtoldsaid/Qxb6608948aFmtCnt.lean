/-
  Count and Bytes.
-/
import Derived.Test.Qxb6608948aFmtErr
namespace Go.Proofs.Qxb6608948aFmt
set_option linter.unusedSimpArgs false
set_option linter.unusedVariables false
open Go.RowKit Go.Extern.Stop Go.Stop Go.Extern

theorem be32_lt (f : Nat → UInt8) (p : Nat) : be32 f p < 4294967296 := by
  have h0 := (f p).toNat_lt
  have h1 := (f (p + 1)).toNat_lt
  have h2 := (f (p + 2)).toNat_lt
  have h3 := (f (p + 3)).toNat_lt
  unfold be32 Lib.beNat
  simp only [Lib.beFrom]
  omega
/-- The state behind a count. -/
def ct (N : Nat) (f : Nat → UInt8) (es : Nat) (s : Option Nat) : Option Nat := s.bind fun p => if p + 4 ≤ N ∧ be32 f p * es ≤ N - (p + 4) then some (p + 4) else none
def CntPost (D B N : Nat) (f : Nat → UInt8) (es : Nat) (s : Option Nat) (W : World) (e : Ending) (w' : World) : Prop :=
  ∃ r : Nat, e = .returned (.int .i64 (r : Int)) ∧ St D B N (ct N f es s) w' ∧ W.grownBy w' (some D) ∧ (ct N f es s = none → r = 0) ∧ ∀ p, ct N f es s = some p → r = be32 f (p - 4)

set_option maxRecDepth 8000 in
set_option maxHeartbeats 4000000 in
theorem count_14 (F : Interp) (D B N es : Nat) (f : Nat → UInt8) (s : Option Nat) (W : World) (hF : F.answers W.tape) (he : Env D B N f W) (hst : St D B N s W) (hes : es ≤ 32) :
    Calls Tryf.prog 14 #[.pointer (some ⟨D, 0, none⟩), .int .i64 (es : Int)] W (CntPost D B N f es s W) := by
  obtain ⟨hf, hs⟩ := hst
  have qn := eql_nil
  cases s with
  | none =>
    have h17 := take_bad D 4 W hs
    go_enter Tryf.func14, Tryf.ntmps14
    go_wp2_with (go_at_call 17; refine h17.mono ?_; rintro e w' ⟨rfl, hw⟩; obtain rfl := hw.symm)
    go_ret
    exact ⟨0, rfl, ⟨hf, hs⟩, grown_refl _ _, fun _ => rfl, fun p h => by cases h⟩
  | some p =>
    obtain ⟨hp, ⟨q, hq, h0⟩, h1⟩ := hs
    by_cases hn : p + 4 ≤ N
    · have h17 := take_good D B (N - p) q 4 W h0 h1 hf (by omega)
      have hst1 := St.took (n := 4) hf hq h0 h1 hn
      obtain ⟨W1, hW1⟩ : ∃ W1, W1 = W.setCell ⟨D, 0, none⟩ (.slice (some ⟨B, if N - p = 4 then q else q + 4, none⟩) (N - p - 4) (N - p - 4)) := ⟨_, rfl⟩
      have hg1 : W.grownBy W1 (some D) := by rw [hW1]; exact grown_set _ _ _ _
      rw [← hW1] at h17 hst1
      obtain rfl : q = p := hq.resolve_left (by omega)
      have hb := (he.grown hg1).buf
      have h18 := Tryf.binary_BE_Uint32 B q 4 4 (f q) (f (q + 1)) (f (q + 2)) (f (q + 3)) W1 (by omega) (hb _ (by omega)) (hb _ (by omega)) (hb _ (by omega)) (hb _ (by omega))
      obtain ⟨x, hx⟩ : ∃ x, x = be32 f q := ⟨_, rfl⟩
      have hxl : x < 4294967296 := by rw [hx]; exact be32_lt f q
      rw [show Lib.beNat [f q, f (q + 1), f (q + 2), f (q + 3)] = x from hx.symm] at h18
      have h18' : Calls Tryf.prog 18 #[.agg #[], .slice (some ⟨B, q, none⟩) 4 4] W1 fun e w' => e = .returned (.int .u32 (x : Int)) ∧ St D B N (some (q + 4)) w' ∧ Below W1.heap.size W1 w' := h18.mono fun e w' ⟨h1, h2⟩ => ⟨h1, hst1.below h2, h2⟩
      clear hW1 h18
      have hmul : ((x * es : Nat) : Int) < 18446744073709551616 := by
        have : x * es ≤ 4294967296 * 32 := Nat.mul_le_mul (by omega) hes
        omega
      have hw1 : IntKind.u64.wrap ((x : Int) * (es : Int)) = ((x * es : Nat) : Int) := by rw [IntKind.wrap_u64]; push_cast; push_cast at hmul; have : 0 ≤ (x : Int) * (es : Int) := Int.mul_nonneg (by omega) (by omega); omega
      obtain ⟨m, hm⟩ : ∃ m, m = N - (q + 4) := ⟨_, rfl⟩
      have hN := he.lim
      have hmb : m ≤ 1048576 := by omega
      have htape := hg1.tape
      have e0 : ct N f es (some q) = if x * es ≤ m then some (q + 4) else none := by
        rw [hx, hm]; simp [ct, hn]
      by_cases hle : x * es ≤ m
      · rw [if_pos hle] at e0
        have hle' : (x : Int) * (es : Int) ≤ (m : Int) := by have : ((x * es : Nat) : Int) ≤ (m : Int) := by omega
                                                             push_cast at this; exact this
        have hw2 : IntKind.u64.wrap ((x : Int) * (es : Int)) = (x : Int) * (es : Int) := by rw [hw1]; push_cast; rfl
        have hxh : Hid (x = be32 f q) := hx
        have hmh : Hid (N - (q + 4) = m) := hm.symm
        have e0h : Hid (ct N f es (some q) = some (q + 4)) := e0
        clear hx hm e0 hw1 hmul hb hle hn hp hq h0 h1 he hst1
        go_enter Tryf.func14, Tryf.ntmps14
        go_wp2_with (first
          | (go_at_call 17; refine h17.mono ?_; rintro e w' ⟨rfl, hw⟩; obtain rfl := hw.symm)
          | (go_at_call 18; refine h18'.mono ?_; rintro e w2 ⟨rfl, hst2, hb2⟩; have hst3 := hst2; obtain ⟨hf2, hp2, ⟨q2, hq2, c0⟩, c1⟩ := hst2; rw [hmh.out] at c0))
        go_ret
        exact ⟨x, rfl, by rw [e0h.out]; exact hst3, grown_trans hg1 (grown_below hb2), fun h => (by rw [e0h.out] at h; cases h), fun p' h => by rw [e0h.out] at h; injection h with h; subst h; rw [Nat.add_sub_cancel]; exact hxh.out⟩
      · rw [if_neg hle] at e0
        have hle' : (m : Int) < (x : Int) * (es : Int) := by have : (m : Int) < ((x * es : Nat) : Int) := by omega
                                                             push_cast at this; exact this
        have hw2 : IntKind.u64.wrap ((x : Int) * (es : Int)) = (x : Int) * (es : Int) := by rw [hw1]; push_cast; rfl
        have h19 : ∀ W2 : World, W2.tape = W.tape → St D B N (some (q + 4)) W2 → Calls Tryf.prog 19 #[.string ⟨#[99, 111, 117, 110, 116, 32, 37, 100, 32, 101, 120, 99, 101, 101, 100, 115, 32, 116, 104, 101, 32, 37, 100, 32, 98, 121, 116, 101, 115, 32, 108, 101, 102, 116]⟩, .slice (some ⟨W2.heap.size, 0, none⟩) 2 2] (W2.alloc (.cells #[.iface 25 (.int .u32 x), .iface 3 (.int .i64 m)] 20)) fun e w' => SomeErr e ∧ St D B N (some (q + 4)) w' ∧ Below W2.heap.size W2 w' := by
          intro W2 ht h2
          have hb := (Below.refl W2.heap.size W2).alloc (Nat.le_refl _) (.cells #[.iface 25 (.int .u32 x), .iface 3 (.int .i64 m)] 20)
          have hh := heap_alloc_new W2 (.cells #[.iface 25 (.int .u32 x), .iface 3 (.int .i64 m)] 20)
          refine (errorf_19 F W2.heap.size x m _ (by show F.answers W2.tape; rw [ht]; exact hF) (by rw [cell_of_row _ _ _ _ _ _ hh]; rfl) (by rw [cell_of_row _ _ _ _ _ _ hh]; rfl)).mono ?_
          rintro e w' ⟨h1, h3⟩
          have hb3 := hb.trans (h3.mono (by simp))
          exact ⟨h1, h2.below hb3, hb3⟩
        have hmh : Hid (N - (q + 4) = m) := hm.symm
        have e0h : Hid (ct N f es (some q) = none) := e0
        clear hx hm e0 hw1 hmul hb hle hn hp hq h0 h1 he hst1
        go_enter Tryf.func14, Tryf.ntmps14
        go_wp2_with (first
          | (go_at_call 17; refine h17.mono ?_; rintro e w' ⟨rfl, hw⟩; obtain rfl := hw.symm)
          | (go_at_call 18; refine h18'.mono ?_; rintro e w2 ⟨rfl, hst2, hb2⟩; have hst3 := hst2; have ht2 := hb2.tape.trans htape; obtain ⟨hf2, hp2, ⟨q2, hq2, c0⟩, c1⟩ := hst2; rw [hmh.out] at c0)
          | (go_at_call 19; refine (h19 _ ht2 hst3).mono ?_; rintro e w3 ⟨⟨t, v, rfl⟩, ⟨hf3, hp3, ⟨q3, hq3, d0⟩, d1⟩, hb3⟩; have g0 := hf3.1; have g1 := hf3.2))
        go_ret
        exact ⟨0, rfl, by rw [e0h.out]; exact St.failed hf3 d0 d1, grown_trans (grown_trans hg1 (grown_below hb2)) (grown_trans (grown_below hb3) (grown_set _ _ _ _)), fun _ => rfl, fun p' h => by rw [e0h.out] at h; cases h⟩
    · obtain ⟨t, v, hse⟩ := he.sen
      have h17 := take_short D 4 (N - p) _ _ t v W h0 h1 hf hse (by omega)
      have hst1 : St D B N none _ := St.failed (t := t) (v := v) hf h0 h1
      go_enter Tryf.func14, Tryf.ntmps14
      go_wp2_with (go_at_call 17; refine h17.mono ?_; rintro e w' ⟨rfl, hw⟩; obtain rfl := hw.symm)
      go_ret
      have e1 : ct N f es (some p) = none := by simp [ct, hn]
      exact ⟨0, rfl, by rw [e1]; exact hst1, grown_set _ _ _ _, fun _ => rfl, fun p' h => by rw [e1] at h; cases h⟩
end Go.Proofs.Qxb6608948aFmt
