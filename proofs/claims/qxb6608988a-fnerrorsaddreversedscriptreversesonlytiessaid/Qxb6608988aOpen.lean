/-
  The faults that came in, opened at every index.
-/
import Derived.Test.Qxb6608988aBnd
import Derived.ProofKit
import Derived.OpenShut
import Derived.Deep.Slices
namespace Go.Proofs.Qxb6608988a
set_option linter.unusedSimpArgs false
set_option linter.unusedVariables false
open Go.RowKit Go.Deep Go.ChangeShapes Go.WideShapes

theorem cells53 : Try.prog.cellsOf 53 = 3 := by kernel_rfl
theorem cells3 : Try.prog.cellsOf 3 = 1 := by kernel_rfl
theorem cells9 : Try.prog.cellsOf 9 = 1 := by kernel_rfl

/-- A slice of faults: the numbers and words, the slice's form. -/
theorem open_faults {H : Type} {enc : TypeId × Value → H} {w : World} {base fuel : Nat} {spare : Nat → Bool} {held : Bool} {a : Option Addr} {n c : Nat} {x : DataW H × List MemPlace}
    (h : DataW.trod enc Try.prog w base spare held fuel 46 [.slice a n c] = some x) : ∃ L C M, Fl a n L C M w ∧ (a = none → n = 0) := by
  rcases open_slice Try.underlying46 h with ⟨hcs, _⟩ | ⟨a', len, cap, m, k, D, Pl, hcs, hb, hl, hm, hmm, rfl, hx⟩
  · simp at hcs
    obtain ⟨rfl, rfl, rfl⟩ := hcs
    exact ⟨fun _ => 0, fun _ => 0, fun _ => ByteArray.empty, fun h => by omega, fun _ => rfl⟩
  · simp at hcs
    obtain ⟨rfl, rfl, rfl⟩ := hcs
    have hlm : n ≤ m := by rw [hmm]; split <;> omega
    have each : ∀ i, i < n → ∃ q : Int × Int × ByteArray, w.cell? (a'.add (i * 3)) = some (.int .i64 q.1) ∧ w.cell? (a'.add (i * 3 + 1)) = some (.int .i64 q.2.1) ∧ w.cell? (a'.add (i * 3 + 2)) = some (.string q.2.2) ∧ q.2.2.size ≤ maxLen := by
      intro i hi
      obtain ⟨cs', h1, h2⟩ := hx i (by omega)
      rw [cells53] at h1
      obtain ⟨_, hlen, hcell⟩ := World.cells?_some h1
      obtain ⟨xs, k', hk, hxy, _, hxl, hf⟩ := DataW.trod_struct Try.underlying53 h2
      have g0 : DataW.trod enc Try.prog w base spare held k' 3 ((cs'.drop 0).take (Try.prog.cellsOf 3)) = xs[0]? := hf 0 _ rfl
      have g1 : DataW.trod enc Try.prog w base spare held k' 3 ((cs'.drop 1).take (Try.prog.cellsOf 3)) = xs[1]? := hf 1 _ rfl
      have g2 : DataW.trod enc Try.prog w base spare held k' 9 ((cs'.drop 2).take (Try.prog.cellsOf 9)) = xs[2]? := hf 2 _ rfl
      rw [cells3] at g0 g1
      rw [cells9] at g2
      have hxs : xs.length = 3 := hxl
      match xs, hxs, cs', hlen with
      | [y0, y1, y2], _, [v0, v1, v2], _ =>
        simp at g0 g1 g2
        obtain ⟨n0, e0, _⟩ := DataW.trod_int Try.underlying3 g0
        obtain ⟨n1, e1, _⟩ := DataW.trod_int Try.underlying3 g1
        obtain ⟨s2, e2, _, hs2⟩ := DataW.trod_string Try.underlying9 g2
        have c0 := hcell 0 (by omega)
        have c1 := hcell 1 (by omega)
        have c2 := hcell 2 (by omega)
        rw [add_add] at c0 c1 c2
        simp at e0 e1 e2
        subst e0; subst e1; subst e2
        exact ⟨(n0, n1, s2), by simpa using c0, by simpa using c1, by simpa using c2, hs2⟩
    obtain ⟨q, hq⟩ := choose_lt each
    refine ⟨fun i => (q i).1, fun i => (q i).2.1, fun i => (q i).2.2, fun hn => ?_, fun h => by cases h⟩
    obtain ⟨b, o, spot⟩ := a'
    have hspot : spot = none := by simpa [Addr.add] using World.cell?_spot (hq 0 hn).1
    subst hspot
    refine ⟨b, o, rfl, fun i hi => ?_⟩
    obtain ⟨e1, e2, e3, e4⟩ := hq i hi
    rw [add_plain] at e1 e2 e3
    exact ⟨e1, by rw [Nat.add_assoc]; exact e2, by rw [Nat.add_assoc]; exact e3, e4⟩
end Go.Proofs.Qxb6608988a
