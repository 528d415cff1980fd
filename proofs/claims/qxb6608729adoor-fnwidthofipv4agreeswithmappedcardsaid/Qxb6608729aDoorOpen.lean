/-
  What the rows of the two laws over net/netip share: the listed variables opened; an array of bytes by value opened.
-/
import Derived.Test.Qxb6608729aDoorRows
import Derived.Test.Qxb6608729aDoorZ
import Derived.Handy
import Derived.Lay
import Derived.ProofKit
import Derived.MakeChecks
import Derived.LaidMore
namespace Go.Proofs.Qxb6608729aDoor
set_option linter.unusedSimpArgs false
set_option linter.unusedVariables false
open Go.ChangeShapes Go.WideShapes Go.ChangeAt Go.RowKit

theorem Tryd.own : ownKnob Tryd.prog.godebug = none := by kernel_rfl
theorem Tryd.laidOut : laidOutB Tryd.prog = true := by kernel_rfl
theorem tZ4 : (Tryd.prog.globals[1]?).map (·.type) = some 68 := by kernel_rfl
theorem tZ6 : (Tryd.prog.globals[0]?).map (·.type) = some 68 := by kernel_rfl
theorem tZ0 : (Tryd.prog.globals[8]?).map (·.type) = some 68 := by kernel_rfl
theorem cells66 : Tryd.prog.cellsOf 66 = 1 := by kernel_rfl
theorem cells68 : Tryd.prog.cellsOf 68 = 1 := by kernel_rfl
theorem cells159 : Tryd.prog.cellsOf 159 = 2 := by kernel_rfl
theorem cells5 : Tryd.prog.cellsOf 5 = 1 := by kernel_rfl

/-- The three listed variables, as both rows list them. -/
def laid3 : List (String × DataW Unit) := Rows.fnWidthOfAdditiveExact6Row.laid

set_option maxRecDepth 100000 in
theorem handle_open {W : World} {f : Nat} {cs : List Value} {x : DataW Unit × List MemPlace} (h : DataW.trod (fun _ => ()) Tryd.prog W 0 (fun _ => true) false f 68 cs = some x) :
    (cs = [.pointer none] ∧ x = (.agg [.nil], [])) ∨ ∃ a y, cs = [.pointer (some a)] ∧ x = (.agg [.ptr y], MemPlace.row a 2 ++ (x.2.drop 2)) := by
  obtain ⟨y0, n, rfl, hl, h0⟩ := trod_struct1 Tryd.underlying68 h
  rw [cells68] at hl
  match cs, hl with
  | [c], _ =>
    have h0' : DataW.trod (fun _ => ()) Tryd.prog W 0 (fun _ => true) false n 66 [c] = some y0 := by simpa [cells66] using h0
    rcases DataW.trod_pointer Tryd.underlying66 h0' with ⟨hc, hx⟩ | ⟨a, cs', y, m, _, hc, hx, _, _⟩
    · subst hx; exact .inl ⟨hc, rfl⟩
    · refine .inr ⟨a, y.1, hc, ?_⟩
      subst hx
      rw [cells159]
      simp [MemPlace.row]

/-- WHAT THE CONDITION GIVES THE WALKS. -/
theorem of_laid {W : World} (h : laidMetH Tryd.prog laid3 W) : ∃ p4 p6, Zs p4 p6 W := by
  rw [MakeChecks.laidMetH_plain _ _ _ (by kernel_rfl)] at h
  obtain ⟨ps, ⟨g0, t0, cs0, f0, q0, r0, hg0, ht0, hv0, hd0, ⟨g1, t1, cs1, f1, q1, r1, hg1, ht1, hv1, hd1, ⟨g2, t2, cs2, f2, q2, r2, hg2, ht2, hv2, hd2, e3, e2⟩, e1⟩, e0⟩, hnd, hrows⟩ := h
  obtain rfl := Option.some.inj ((show Tryd.prog.globalNamed _ = some 1 by kernel_rfl).symm.trans hg0)
  obtain rfl := Option.some.inj ((show Tryd.prog.globalNamed _ = some 0 by kernel_rfl).symm.trans hg1)
  obtain rfl := Option.some.inj ((show Tryd.prog.globalNamed _ = some 8 by kernel_rfl).symm.trans hg2)
  obtain rfl := Option.some.inj (tZ4.symm.trans ht0)
  obtain rfl := Option.some.inj (tZ6.symm.trans ht1)
  obtain rfl := Option.some.inj (tZ0.symm.trans ht2)
  obtain ⟨l0⟩ := cs0
  obtain ⟨l1⟩ := cs1
  obtain ⟨l2⟩ := cs2
  rcases handle_open hd0 with ⟨_, hx⟩ | ⟨p4, y4, hc4, hx4⟩
  · simp [Rows.laid_net_netip_z4] at hx
  rcases handle_open hd1 with ⟨_, hx⟩ | ⟨p6, y6, hc6, hx6⟩
  · simp [Rows.laid_net_netip_z6noz] at hx
  rcases (handle_open hd2).symm with ⟨p, y, _, hx⟩ | ⟨hc0, _⟩
  · simp [Rows.laid_net_netip_z0] at hx
  simp only at hc4 hc6 hc0
  subst hc4 hc6 hc0
  simp only [Prod.mk.injEq] at hx4 hx6
  obtain ⟨_, hq0⟩ := hx4
  obtain ⟨_, hq1⟩ := hx6
  have m4 : MemPlace.cell p4.block p4.off ∈ q0 := by rw [hq0]; simp [MemPlace.row]
  have m6 : MemPlace.cell p6.block p6.off ∈ q1 := by rw [hq1]; simp [MemPlace.row]
  have k4 : MemPlace.cell p4.block p4.off ∈ ps := by rw [e0]; simp [m4]
  have k6 : MemPlace.cell p6.block p6.off ∈ ps := by rw [e0, e1]; simp [m6]
  refine ⟨p4, p6, ?_, ?_, ?_, ?_, (hrows _ _ k4).1, (hrows _ _ k6).1⟩
  · simpa using World.var?_cell hg1 hv1 0
  · simpa using World.var?_cell hg0 hv0 0
  · simpa using World.var?_cell hg2 hv2 0
  · rintro rfl
    rw [e0, e1] at hnd
    have := (List.nodup_append.1 hnd).2.2 _ (List.mem_append_right _ m4) _ (List.mem_append_left _ (List.mem_append_right _ m6))
    exact this rfl

section
variable {H : Type} {enc : TypeId × Value → H} {w : World} {base : Nat} {spare : Nat → Bool} {held : Bool}
set_option maxRecDepth 100000 in
/-- AN ARRAY OF BYTES BY VALUE, OPENED. -/
theorem open_bytes {n : Nat} {t : TypeId} {r : Reach} {b0 : Nat} {v : Value} {d : DataW H} {p : List MemPlace} (ht : Tryd.prog.underlying t = some (.array n 5)) (hct : Tryd.prog.cellsOf t = n)
    (hv : Value.okWide Tryd.prog w r b0 t v) (h : DataW.Trod enc Tryd.prog w base spare held t v d p) :
    ∃ f : Nat → Int, v = .agg ((List.range n).map fun i => Value.int .u8 (f i)).toArray ∧ ∀ i, Byte (f i) := by
  simp only [Value.okWide, ht] at hv
  obtain ⟨cs, rfl, hsz, _⟩ := hv
  obtain ⟨fuel, hf⟩ := h
  obtain ⟨xs, m, _, hx, hlen, hn, hel⟩ := DataW.trod_array ht hf
  have key : ∀ i, i < n → ∃ k, cs[i]? = some (.int .u8 k) ∧ Byte k := fun i hi => by
    have h1 := hel i hi
    have hxi : i < xs.length := by omega
    rw [cells5, List.getElem?_eq_getElem hxi] at h1
    obtain ⟨k, e1, _, e3⟩ := DataW.trod_int Tryd.underlying5 h1
    refine ⟨k, ?_, by simpa [Lit.wf, IntKind.min, IntKind.max, IntKind.signed, IntKind.bits, Byte] using e3⟩
    have hi' : i < cs.size := by rw [hsz, hct]; exact hi
    have e1' : (cs.toList.drop i).take 1 = [.int .u8 k] := by simpa [Value.cells] using e1
    have : (cs.toList.drop i)[0]? = some (.int .u8 k) := by
      have h2 : ((cs.toList.drop i).take 1)[0]? = some (.int .u8 k) := by rw [e1']; rfl
      simpa using h2
    simpa using this
  refine ⟨fun i => match cs[i]? with | some (.int _ k) => if 0 ≤ k ∧ k ≤ 255 then k else 0 | _ => 0, ?_, fun i => ?_⟩
  · congr 1
    apply Array.ext
    · simp [hsz, hct]
    · intro i h1 h2
      obtain ⟨k, hk, hb⟩ := key i (by simpa [hsz, hct] using h1)
      have : cs[i] = .int .u8 k := by
        rw [Array.getElem?_eq_getElem h1] at hk
        exact Option.some.inj hk
      simp [this, hk, hb.1, hb.2]
  · unfold Byte
    dsimp only
    split
    · split <;> omega
    · omega
end
end Go.Proofs.Qxb6608729aDoor
