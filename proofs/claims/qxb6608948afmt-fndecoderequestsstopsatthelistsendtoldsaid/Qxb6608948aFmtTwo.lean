/-
  The plain law: what reads cleanly from n bytes reads the same with a tail behind it.
-/
import Derived.Test.Qxb6608948aFmtSame
namespace Go.Proofs.Qxb6608948aFmt
set_option linter.unusedSimpArgs false
set_option linter.unusedVariables false
open Go.RowKit

variable {N M : Nat} {f g : Nat → UInt8}
/-- Two buffers agree on the first N bytes, the second is at least as long. -/
structure Agree (N M : Nat) (f g : Nat → UInt8) : Prop where
  le : N ≤ M
  eq : ∀ k, k < N → f k = g k

theorem Agree.be32 (h : Agree N M f g) {p : Nat} (hp : p + 4 ≤ N) : be32 f p = be32 g p := by
  unfold Qxb6608948aFmt.be32
  rw [h.eq p (by omega), h.eq (p + 1) (by omega), h.eq (p + 2) (by omega), h.eq (p + 3) (by omega)]
theorem Agree.be64 (h : Agree N M f g) {p : Nat} (hp : p + 8 ≤ N) : be64 f p = be64 g p := by
  unfold Qxb6608948aFmt.be64
  rw [h.eq p (by omega), h.eq (p + 1) (by omega), h.eq (p + 2) (by omega), h.eq (p + 3) (by omega), h.eq (p + 4) (by omega), h.eq (p + 5) (by omega), h.eq (p + 6) (by omega), h.eq (p + 7) (by omega)]
theorem Agree.brow (h : Agree N M f g) {p n : Nat} (hp : p + n ≤ N) : brow f p n = brow g p n := by
  unfold Qxb6608948aFmt.brow
  apply List.map_congr_left
  intro m hm
  rw [h.eq (p + m) (by have := List.mem_range.1 hm; omega)]
theorem Agree.tk (h : Agree N M f g) {n : Nat} {s : Option Nat} {p' : Nat} (e : tk N n s = some p') : tk M n s = some p' := by
  obtain ⟨p, rfl, rfl, hp⟩ := tk_some e
  have := h.le
  simp [Qxb6608948aFmt.tk]; omega
theorem Agree.ct (h : Agree N M f g) {es : Nat} {s : Option Nat} {p' : Nat} (e : ct N f es s = some p') : ct M g es s = some p' := by
  obtain ⟨p, rfl, rfl, hp, hq⟩ := ct_some e
  have := h.le
  rw [h.be32 hp] at hq
  have c : p + 4 ≤ M ∧ Qxb6608948aFmt.be32 g p * es ≤ M - (p + 4) := ⟨by omega, by omega⟩
  unfold Qxb6608948aFmt.ct
  show (if _ then _ else _) = _
  rw [if_pos c]
theorem Agree.bt (h : Agree N M f g) {s : Option Nat} {p' : Nat} (e : bt N f s = some p') : bt M g s = some p' := by
  obtain ⟨p, rfl, rfl, hp, hq⟩ := bt_some e
  have := h.le
  rw [h.be32 hp] at hq ⊢
  have c : p + 4 ≤ M ∧ Qxb6608948aFmt.be32 g p ≤ M - (p + 4) := ⟨by omega, by omega⟩
  unfold Qxb6608948aFmt.bt
  show (if _ then _ else _) = _
  rw [if_pos c]
/-- A request that reads cleanly: where it lies. -/
theorem rq_some {s : Option Nat} {p' : Nat} (e : rq N f s = some p') : ∃ p l k, s = some p ∧ l = be32 f (p + 16) ∧ k = be32 f (p + 20 + l) ∧ p' = p + 24 + l + 32 * k ∧ p' ≤ N := by
  unfold rq at e
  obtain ⟨p4, h4, hp'⟩ := Option.map_eq_some_iff.1 e
  obtain ⟨p3, h3, e4, c1, c2⟩ := ct_some h4
  obtain ⟨p2, h2, e3, d1, d2⟩ := bt_some h3
  obtain ⟨p1, h1, e2, _⟩ := tk_some h2
  obtain ⟨p, hp, e1, _⟩ := tk_some h1
  have hp2 : p2 = p + 16 := by omega
  subst hp2
  have hp4 : p4 - 4 = p3 := by omega
  rw [hp4] at hp'
  have e3' : p3 = p + 20 + be32 f (p + 16) := by omega
  refine ⟨p, be32 f (p + 16), be32 f (p + 20 + be32 f (p + 16)), hp, rfl, rfl, ?_, ?_⟩
  · rw [← hp', e4, e3']; omega
  · rw [← hp', e4]; omega
theorem Agree.rq (h : Agree N M f g) {s : Option Nat} {p' : Nat} (e : rq N f s = some p') : rq M g s = some p' := by
  unfold Qxb6608948aFmt.rq at e ⊢
  obtain ⟨p4, h4, hp'⟩ := Option.map_eq_some_iff.1 e
  obtain ⟨p3, h3, e4, c1, c2⟩ := ct_some h4
  obtain ⟨p2, h2, _⟩ := bt_some h3
  obtain ⟨p1, h1, _⟩ := tk_some h2
  have k1 := h.tk h1
  have k2 := h.tk h2
  have k3 := h.bt h3
  have k4 := h.ct h4
  rw [h1] at h2
  rw [k1]
  have k2' : Qxb6608948aFmt.tk M 8 (some p1) = some p2 := h.tk h2
  rw [k2']
  obtain ⟨_, h2e⟩ : ∃ x, Qxb6608948aFmt.tk N 8 (some p1) = some x := ⟨_, h2⟩
  have h3' : Qxb6608948aFmt.bt N f (some p2) = some p3 := by
    have := h3
    rw [h1, h2] at this
    exact this
  rw [h.bt h3']
  have h4' : Qxb6608948aFmt.ct N f 32 (some p3) = some p4 := by
    have := h4
    rw [h1, h2, h3'] at this
    exact this
  rw [h.ct h4']
  rw [← hp']
  show some _ = some _
  have hb : p4 - 4 + 4 ≤ N := by omega
  rw [show Qxb6608948aFmt.be32 f (p4 - 4) = Qxb6608948aFmt.be32 g (p4 - 4) from h.be32 hb]
theorem Agree.sts (h : Agree N M f g) {s s' : Option Nat} (h0 : ∀ p, s = some p → s' = some p) : ∀ {i : Nat} {p : Nat}, sts N f s i = some p → sts M g s' i = some p
  | 0, p, e => h0 p e
  | i + 1, p, e => by
    obtain ⟨p0, l, k, hp, _⟩ := rq_some e
    have ih := Agree.sts h h0 hp
    show Qxb6608948aFmt.rq M g (Qxb6608948aFmt.sts M g s' i) = some p
    rw [ih]
    have e' : Qxb6608948aFmt.rq N f (Qxb6608948aFmt.sts N f s i) = some p := e
    rw [hp] at e'
    exact h.rq e'
theorem sts_back {s : Option Nat} {i p : Nat} (e : sts N f s (i + 1) = some p) : ∃ p0, sts N f s i = some p0 := by
  obtain ⟨p0, l, k, hp, _⟩ := rq_some e
  exact ⟨p0, hp⟩
theorem sts_upto {s : Option Nat} {n p : Nat} (e : sts N f s n = some p) : ∀ i, i ≤ n → ∃ q, sts N f s i = some q := by
  intro i hi
  obtain ⟨d, hd⟩ : ∃ d, n = i + d := ⟨n - i, by omega⟩
  subst hd
  clear hi
  induction d generalizing p with
  | zero => exact ⟨p, e⟩
  | succ d ih =>
    obtain ⟨q, hq⟩ := sts_back (show sts N f s (i + d + 1) = some p from e)
    exact ih hq
end Go.Proofs.Qxb6608948aFmt
