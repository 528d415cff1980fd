/-
  The walk of the law FnFetchStateAppendFieldsSortsAsSeqAndJoins.
-/
import Derived.Test.Qxb6608948aGrow
namespace Go.Proofs.Qxb6608948a
set_option linter.unusedSimpArgs false
set_option linter.unusedVariables false
open Go.RowKit Go.Stop

theorem zappend_nil (v : Int) (w : World) (v0 : 0 ≤ v) (v1 : v < 18446744073709551616) :
    Calls Try.prog 6 #[.agg #[.int .u64 v], .slice none 0 0] w fun e w' => ∃ g cap, e = .returned (.slice (some ⟨g, 0, none⟩) 8 cap) ∧ 8 ≤ cap ∧ Ints g 0 8 (byt v) w' ∧ Below w.heap.size w w' :=
  (zappend_any none 0 (fun _ => 0) v w (by omega) (fun h => by omega) (fun _ => rfl) v0 v1).mono fun e w' ⟨g, cap, he, hc, hI, hB⟩ =>
    ⟨g, cap, by simpa using he, by omega, fun m hm => by have := hI m (by omega); rw [this]; simp [joined], hB⟩

theorem law_long (s t : Int) (a : Option Addr) (n c : Nat) (w : World) (l1 : n ≤ 9223372036854775807) (h : ¬ n ≤ 1048576) :
    Calls Try.prog 3 #[.int .u64 s, .int .u64 t, .slice a n c] w fun e w' => e = .returned (.bool true) ∧ Below w.heap.size w w' := by
  have hb := bytes_any s t a n c w l1
  rw [← bytes_no h] at hb
  go_enter Try.func3, Try.ntmps3
  go_wp2_with (go_at_call 4; refine hb.mono ?_; rintro e w' ⟨rfl, hw⟩; obtain rfl := hw.symm; clear hw)
  go_ret
  exact ⟨rfl, Below.refl _ _⟩

theorem tail_ints {j n : Nat} {F : Nat → Int} {s : Int} {w : World} (h : Ints j 0 (n + 8) (joined n F s) w) : Ints j n 8 (byt s) w := fun m hm => by
  have := h (n + m) (by omega)
  rw [Nat.zero_add] at this
  rw [this]; unfold joined; rw [if_neg (by omega), Nat.add_sub_cancel_left]
theorem chain2 {a b c : World} (h1 : Below a.heap.size a b) (h2 : Below b.heap.size b c) : Below a.heap.size a c := h1.trans (h2.mono h1.size)
theorem chain8 {a b c d e f g h i : World} (h1 : Below a.heap.size a b) (h2 : Below b.heap.size b c) (h3 : Below c.heap.size c d) (h4 : Below d.heap.size d e) (h5 : Below e.heap.size e f) (h6 : Below f.heap.size f g) (h7 : Below g.heap.size g h) (h8 : Below h.heap.size h i) : Below a.heap.size a i :=
  chain2 (chain2 (chain2 (chain2 (chain2 (chain2 (chain2 h1 h2) h3) h4) h5) h6) h7) h8

set_option maxRecDepth 100000 in
set_option maxHeartbeats 2000000 in
theorem law_short (s t : Int) (a : Option Addr) (n c : Nat) (F : Nat → Int) (w : World) (h : n ≤ 1048576) (r : Rd a n F w) (hnil : a = none → n = 0 ∧ c = 0) (s0 : 0 ≤ s) (s1 : s < 18446744073709551616) (t0 : 0 ≤ t) (t1 : t < 18446744073709551616)
    (C : Int) (hC : cmp8 (byt s) (byt t) = C) (hlt : s < t ∧ C = -1 ∨ ¬ s < t ∧ t < s ∧ C = 1 ∨ ¬ s < t ∧ ¬ t < s ∧ C = 0) :
    Calls Try.prog 3 #[.int .u64 s, .int .u64 t, .slice a n c] w fun e w' => e = .returned (.bool true) ∧ Below w.heap.size w w' := by
  have hb := bytes_any s t a n c w (by omega)
  rw [← bytes_yes h] at hb
  have HC : Hid (cmp8 (byt s) (byt t) = C) := hC
  clear hC
  rcases hlt with ⟨g1, rfl⟩ | ⟨g1, g2, rfl⟩ | ⟨g1, g2, rfl⟩
  all_goals
    go_enter Try.func3, Try.ntmps3
    go_wp2_with (go_at_call 4; refine hb.mono ?_; rintro e w' ⟨rfl, hw⟩; obtain rfl := hw.symm; clear hw)
    refine (clone_any a n c F _ (by omega) r hnil).mono ?_
    rintro e w1 ⟨a1, rfl, r1, n1, b1⟩
    go_wp2_with fail
    refine (clone_any a n c F _ (by omega) (r.below b1) hnil).mono ?_
    rintro e w2 ⟨a2, rfl, r2, n2, b2⟩
    go_wp2_with fail
    refine (zappend_nil s _ s0 s1).mono ?_
    rintro e w3 ⟨e1, k1, rfl, kc1, I1, b3⟩
    go_wp2_with fail
    refine (zappend_nil t _ t0 t1).mono ?_
    rintro e w4 ⟨e2, k2, rfl, kc2, I2, b4⟩
    go_wp2_with fail
    refine (compare_any e1 0 k1 e2 0 k2 (byt s) (byt t) _ (I1.below b4) I2 (byt_byte s s0 s1) (byt_byte t t0 t1)).mono ?_
    rintro e w5 ⟨he, b5⟩
    rw [HC.out] at he
    subst he
    go_wp2_with fail
    refine (zappend_any a2 n F s _ h ((((r2.below b3).below b4).below b5)) n2 s0 s1).mono ?_
    rintro e w6 ⟨j, k3, rfl, kc3, I3, b6⟩
    have hcap : ¬ k3 = n := by omega
    have hle : (n : Int) ≤ (k3 : Int) := by omega
    have hle2 : (n : Int) ≤ (n : Int) + 8 := by omega
    go_wp2_with fail
    refine (equal_any (some ⟨j, 0, none⟩) a1 k3 n n (joined n F s) F _ (by omega) (fun _ => ⟨j, 0, rfl, fun m hm => I3 m (by omega)⟩) (((((r1.below b2).below b3).below b4).below b5).below b6) (fun m hm => by simp [joined, hm])).mono ?_
    rintro e w7 ⟨rfl, b7⟩
    go_wp2_with fail
    refine (equal_any (some ⟨j, n, none⟩) (some ⟨e1, 0, none⟩) (k3 - n) k1 8 (byt s) (byt s) _ (by omega) (fun _ => ⟨j, n, rfl, tail_ints (I3.below b7)⟩) (fun _ => ⟨e1, 0, rfl, ((((I1.below b4).below b5).below b6).below b7)⟩) (fun _ _ => rfl)).mono ?_
    rintro e w8 ⟨rfl, b8⟩
    go_wp2_with fail
    go_ret
    exact ⟨rfl, chain8 b1 b2 b3 b4 b5 b6 b7 b8⟩

theorem law_any (s t : Int) (a : Option Addr) (n c : Nat) (F : Nat → Int) (w : World) (l1 : n ≤ 9223372036854775807) (r : Rd a n F w) (hnil : a = none → n = 0 ∧ c = 0) (s0 : 0 ≤ s) (s1 : s < 18446744073709551616) (t0 : 0 ≤ t) (t1 : t < 18446744073709551616) :
    Calls Try.prog 3 #[.int .u64 s, .int .u64 t, .slice a n c] w fun e w' => e = .returned (.bool true) ∧ Below w.heap.size w w' := by
  by_cases h : n ≤ 1048576
  · refine law_short s t a n c F w h r hnil s0 s1 t0 t1 _ rfl ?_
    rw [cmp_words]
    by_cases g1 : s < t
    · exact .inl ⟨g1, if_pos g1⟩
    · by_cases g2 : t < s
      · exact .inr (.inl ⟨g1, g2, by rw [if_neg g1, if_pos g2]⟩)
      · exact .inr (.inr ⟨g1, g2, by rw [if_neg g1, if_neg g2]⟩)
  · exact law_long s t a n c w l1 h
end Go.Proofs.Qxb6608948a
