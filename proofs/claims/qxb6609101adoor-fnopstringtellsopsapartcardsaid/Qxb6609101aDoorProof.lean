/-
  FnOpStringTellsOpsApart: the law at every input, the row, the card.
-/
import Derived.Test.Qxb6609101aDoorLaw
import Derived.Test.Qxb6609101aDoorTie
import Derived.Test.Qxb6609101aDoorCards
import Derived.Lib.LaidTab
import Derived.Handy
import Derived.Lay
import Derived.ProofKit
import Derived.OpenShut
import Derived.MakeChecks
import Derived.LaidMore
import Derived.SevenTiedAt
namespace Go.Proofs.Qxb6609101aDoor
set_option linter.unusedSimpArgs false
set_option linter.unusedVariables false
open Go.ChangeShapes Go.WideShapes Go.ChangeAt Go.RowKit
open Go.ChangeMaps (open_string shut_string)

theorem own5 : ownKnob Tryd.prog.godebug = none := by kernel_rfl
theorem laidOut5 : laidOutB Tryd.prog = true := by kernel_rfl
/-- The three listed tables. -/
def laidTabs : List (String × DataW Unit) := Rows.fnOpStringTellsOpsApartRow.laid

theorem tab_eq : (Rows.laid_internal_strconv_uint64pow10 : DataW Unit) = Lib.tabData .u64 Lib.pow10Tab := by kernel_rfl

set_option maxRecDepth 100000 in
/-- WHAT THE CONDITION GIVES THE WALKS. -/
theorem of_laid {W : World} (h : laidMetH Tryd.prog laidTabs W) : AI W := by
  rw [MakeChecks.laidMetH_plain _ _ _ (by kernel_rfl)] at h
  obtain ⟨ps, ⟨g0, t0, cs0, f0, q0, r0, hg0, ht0, hv0, hd0, ⟨g1, t1, cs1, f1, q1, r1, hg1, ht1, hv1, hd1, ⟨g2, t2, cs2, f2, q2, r2, hg2, ht2, hv2, hd2, e3, e2⟩, e1⟩, e0⟩, hnd, hrows⟩ := h
  obtain rfl := Option.some.inj ((show Tryd.prog.globalNamed _ = some 0 by kernel_rfl).symm.trans hg2)
  obtain rfl := Option.some.inj ((show (Tryd.prog.globals[0]?).map (·.type) = some 46 by kernel_rfl).symm.trans ht2)
  rw [tab_eq] at hd2
  have hc := Lib.cells_of_tab (P := Tryd.prog) (n := 20) (e := 36) Tryd.underlying46 Tryd.underlying36 (by kernel_rfl) (by kernel_rfl) hd2
  have hT := hv2.trans (congrArg some (show cs2 = (Lib.pow10Tab.map fun z => Value.int .u64 z).toArray by rw [← hc]))
  have hTB := Lib.tabBelow_of_tabIs (P := Tryd.prog) (w := W) (k := .u64) (zs := Lib.pow10Tab) hT
  intro B n i sv xs W' i0 i1 hown hB hB0 hb hl
  refine (Any.strconv_AppendInt_10 Tryd.laysM176 B n i i0 i1 sv xs W' hown hB (by omega) (fun w' hw' => hTB w' (hb.trans (hw'.mono hB0)))).mono ?_
  rintro e w' ⟨v', he, ho, hbl, _⟩
  exact ⟨v', he, ho, hbl⟩

set_option maxRecDepth 100000 in
theorem lifted5 (os : Os) (started : os.Started) (H : Type) (enc : TypeId × Value → H) :
    ReturnsInHanded {} Tryd.checked os 5 .any (fun w args => (Rows.fnOpStringTellsOpsApartSpec.pre enc Tryd.prog Tryd.f5 [] false w args ∧ laidMetH Tryd.prog laidTabs w) ∧ sizedMet enc Tryd.prog Tryd.f5 (OpenSpec.ofChange Rows.fnOpStringTellsOpsApartSpec) false w args)
      (Rows.fnOpStringTellsOpsApartSpec.post enc Tryd.prog Tryd.f5 false true false false) := by
  refine returnsInHanded_of_change_and (C := Tryd.checked) (X := fun w _ => laidMetH Tryd.prog laidTabs w) (fun _ _ _ hh h => h.of_heap hh) own5 started (by kernel_rfl) Tryd.func5
    (ChangeSpec.witness_shaped (enc := enc) (C := Tryd.checked) (os := os) (X := fun w _ => laidMetH Tryd.prog laidTabs w) false (World.laidAll Tryd.prog os laidTabs) #[.string ⟨#[]⟩, .int .i64 0, .string ⟨#[]⟩, .int .i64 0, .int .i64 0, .string ⟨#[]⟩, .int .i64 0, .string ⟨#[]⟩, .int .i64 0, .int .i64 0] 8 (World.laidAll_os _ _ _)
      (World.shaped_of_ZipB (by kernel_rfl) (by kernel_rfl)) (by kernel_rfl) (by kernel_rfl) (by kernel_rfl)
      (by rw [MakeChecks.laidMetH_plain _ _ _ (by kernel_rfl)]; exact laidMet_laidAll _ (by kernel_rfl) (by kernel_rfl))) ?_
  intro W base args ds gs before hval0 hW _ _ hL _
  have hval : ∀ (j : Nat) t v, Tryd.f5.params[j]? = some t → args[j]? = some v → Value.okWide Tryd.prog W .any base t v := hval0
  have hW' := hW
  obtain ⟨p, q, hA0, hV, rfl, _, _⟩ := hW
  have hA : DataW.TrodAll enc Tryd.prog W 0 (fun _ => true) true Tryd.f5.params.toList args.toList ds p := hA0
  rw [Tryd.params5] at hA hval
  obtain ⟨v0, vs0, d0, ds0, p0, q0, hargs, rfl, rfl, h0, t0⟩ := trodAll_cons hA
  obtain ⟨v1, vs1, d1, ds1, p1, q1, rfl, rfl, rfl, h1, t1⟩ := trodAll_cons t0
  obtain ⟨v2, vs2, d2, ds2, p2, q2, rfl, rfl, rfl, h2, t2⟩ := trodAll_cons t1
  obtain ⟨v3, vs3, d3, ds3, p3, q3, rfl, rfl, rfl, h3, t3⟩ := trodAll_cons t2
  obtain ⟨v4, vs4, d4, ds4, p4, q4, rfl, rfl, rfl, h4, t4⟩ := trodAll_cons t3
  obtain ⟨v5, vs5, d5, ds5, p5, q5, rfl, rfl, rfl, h5, t5⟩ := trodAll_cons t4
  obtain ⟨v6, vs6, d6, ds6, p6, q6, rfl, rfl, rfl, h6, t6⟩ := trodAll_cons t5
  obtain ⟨v7, vs7, d7, ds7, p7, q7, rfl, rfl, rfl, h7, t7⟩ := trodAll_cons t6
  obtain ⟨v8, vs8, d8, ds8, p8, q8, rfl, rfl, rfl, h8, t8⟩ := trodAll_cons t7
  obtain ⟨v9, vs9, d9, ds9, p9, q9, rfl, rfl, rfl, h9, t9⟩ := trodAll_cons t8
  obtain ⟨rfl, rfl, rfl⟩ := trodAll_nil t9
  obtain rfl : args = #[v0, v1, v2, v3, v4, v5, v6, v7, v8, v9] := by cases args; simp_all
  obtain ⟨rfl, rfl⟩ := trodVars_none hV
  obtain ⟨x0, rfl, rfl, rfl, z0⟩ := open_string Tryd.underlying9 (hval 0 9 v0 rfl rfl) h0
  obtain ⟨x1, rfl, rfl, rfl, z1⟩ := open_int Tryd.underlying3 (hval 1 3 v1 rfl rfl) h1
  obtain ⟨x2, rfl, rfl, rfl, z2⟩ := open_string Tryd.underlying9 (hval 2 9 v2 rfl rfl) h2
  obtain ⟨x3, rfl, rfl, rfl, z3⟩ := open_int Tryd.underlying3 (hval 3 3 v3 rfl rfl) h3
  obtain ⟨x4, rfl, rfl, rfl, z4⟩ := open_int Tryd.underlying3 (hval 4 3 v4 rfl rfl) h4
  obtain ⟨x5, rfl, rfl, rfl, z5⟩ := open_string Tryd.underlying9 (hval 5 9 v5 rfl rfl) h5
  obtain ⟨x6, rfl, rfl, rfl, z6⟩ := open_int Tryd.underlying3 (hval 6 3 v6 rfl rfl) h6
  obtain ⟨x7, rfl, rfl, rfl, z7⟩ := open_string Tryd.underlying9 (hval 7 9 v7 rfl rfl) h7
  obtain ⟨x8, rfl, rfl, rfl, z8⟩ := open_int Tryd.underlying3 (hval 8 3 v8 rfl rfl) h8
  obtain ⟨x9, rfl, rfl, rfl, z9⟩ := open_int Tryd.underlying3 (hval 9 3 v9 rfl rfl) h9
  have b1 : -9223372036854775808 ≤ x1 ∧ x1 ≤ 9223372036854775807 := by have := z1; simp [Lit.wf, IntKind.min, IntKind.max, IntKind.signed, IntKind.bits] at this; omega
  have b6 : -9223372036854775808 ≤ x6 ∧ x6 ≤ 9223372036854775807 := by have := z6; simp [Lit.wf, IntKind.min, IntKind.max, IntKind.signed, IntKind.bits] at this; omega
  clear hA0 hval0
  refine (law_5 x0 x2 x5 x7 x1 x3 x4 x6 x8 x9 W (of_laid hL) b1.1 b1.2 b6.1 b6.2).mono fun e W' ⟨he, bel⟩ => ?_
  subst he
  exact ⟨_, rfl, _, _, _, [], _, [], hW', trodAll_mk1 (shut_bool Tryd.underlying4 _),
    (trodAll_cons_mk (shut_string Tryd.underlying9 z0) (trodAll_cons_mk (shut_int Tryd.underlying3 z1) (trodAll_cons_mk (shut_string Tryd.underlying9 z2) (trodAll_cons_mk (shut_int Tryd.underlying3 z3) (trodAll_cons_mk (shut_int Tryd.underlying3 z4) (trodAll_cons_mk (shut_string Tryd.underlying9 z5) (trodAll_cons_mk (shut_int Tryd.underlying3 z6) (trodAll_cons_mk (shut_string Tryd.underlying9 z7) (trodAll_cons_mk (shut_int Tryd.underlying3 z8) (trodAll_cons_mk (shut_int Tryd.underlying3 z9) trodAll_mk0)))))))))),
    rfl, bel.frame _, fun h => by cases h⟩

theorem fnOpStringTellsOpsApart_holds : Rows.FnOpStringTellsOpsApartSaid :=
  OpenClaim.holds_of_wide 5 Tryd.f5 rfl rfl rfl rfl rfl rfl rfl ⟨rfl, rfl, rfl, rfl, rfl⟩ rfl rfl rfl rfl rfl (by kernel_rfl) Tryd.func5 (by kernel_rfl)
    (of_decide_eq_true (by kernel_rfl)) (by unfold Func.isWrapper; first | (rw [if_pos (by decide +kernel)]; kernel_rfl) | (rw [if_neg (by decide +kernel)]; exact ⟨rfl, rfl⟩))
    (fun os started H enc _ => lifted5 os started H enc)

theorem fnOpStringTellsOpsApart_card : Rows.FnOpStringTellsOpsApartCardSaid :=
  Claim7.holds_tied_plain_at .later [] [.data, .data, .data] true (true, "0bfef67be125d562570eef6d65be074bc48d44d5c06baf823db9cc293f9ad618") false fnOpStringTellsOpsApart_holds (fun _ h => by cases h) (by kernel_rfl) (fun _ h => by cases h) fnOpStringTellsOpsApart_row_tie rfl ⟨rfl, rfl⟩ (by kernel_rfl) rfl
    (fun f fn hf hfn => by
      obtain rfl : f = 5 := Option.some.inj ((show Tryd.prog.funcNamed Tryd.f5.name = some 5 by kernel_rfl).symm.trans hf) |>.symm
      obtain rfl : fn = Tryd.f5 := (Option.some.inj (Tryd.func5.symm.trans hfn)).symm
      exact ⟨by kernel_rfl, fun j t ht => by
        rw [Tryd.params5] at ht
        have hm : t ∈ [9, 3, 9, 3, 3, 9, 3, 9, 3, 3] := by simpa using Array.mem_of_getElem? ht
        have hall : ([9, 3, 9, 3, 3, 9, 3, 9, 3, 3].all fun u => !Tryd.prog.wantsStandIn u) = true := by kernel_rfl
        exact (show Tryd.prog.wantsStandIn t = false by simpa using List.all_eq_true.1 hall t hm)⟩)
    (by kernel_rfl)
end Go.Proofs.Qxb6609101aDoor
