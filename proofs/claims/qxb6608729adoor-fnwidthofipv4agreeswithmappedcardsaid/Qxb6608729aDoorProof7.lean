/-
  FnWidthOfIPv4AgreesWithMapped: the row, the card.
-/
import Derived.Test.Qxb6608729aDoorLaw7
import Derived.Test.Qxb6608729aDoorOpen
import Derived.Test.Qxb6608729aDoorTie
import Derived.Test.Qxb6608729aDoorCards
import Derived.SevenTiedAt
namespace Go.Proofs.Qxb6608729aDoor
set_option linter.unusedSimpArgs false
set_option linter.unusedVariables false
open Go.ChangeShapes Go.WideShapes Go.ChangeAt Go.RowKit

theorem range4 (f : Nat → Int) : ((List.range 4).map fun i => Value.int .u8 (f i)).toArray = #[.int .u8 (f 0), .int .u8 (f 1), .int .u8 (f 2), .int .u8 (f 3)] := rfl
theorem cells42 : Tryd.prog.cellsOf 42 = 4 := by kernel_rfl

set_option maxRecDepth 100000 in
theorem lifted7 (os : Os) (started : os.Started) (H : Type) (enc : TypeId × Value → H) :
    ReturnsInHanded {} Tryd.checked os 7 .any (fun w args => (Rows.fnWidthOfIPv4AgreesWithMappedSpec.pre enc Tryd.prog Tryd.f7 [] false w args ∧ laidMetH Tryd.prog laid3 w) ∧ sizedMet enc Tryd.prog Tryd.f7 (OpenSpec.ofChange Rows.fnWidthOfIPv4AgreesWithMappedSpec) false w args)
      (Rows.fnWidthOfIPv4AgreesWithMappedSpec.post enc Tryd.prog Tryd.f7 false true false false) := by
  refine returnsInHanded_of_change_and (C := Tryd.checked) (X := fun w _ => laidMetH Tryd.prog laid3 w) (fun _ _ _ hh h => h.of_heap hh) Tryd.own started (by kernel_rfl) Tryd.func7
    (ChangeSpec.witness_shaped (enc := enc) (C := Tryd.checked) (os := os) (X := fun w _ => laidMetH Tryd.prog laid3 w) false (World.laidAll Tryd.prog os laid3) #[.agg #[.int .u8 0, .int .u8 0, .int .u8 0, .int .u8 0], .agg #[.int .u8 0, .int .u8 0, .int .u8 0, .int .u8 0]] 8 (World.laidAll_os _ _ _)
      (World.shaped_of_ZipB (by kernel_rfl) (by kernel_rfl)) (by kernel_rfl) (by kernel_rfl) (by kernel_rfl)
      (by rw [MakeChecks.laidMetH_plain _ _ _ (by kernel_rfl)]; exact laidMet_laidAll _ (by kernel_rfl) (by kernel_rfl))) ?_
  intro W base args ds gs before hval0 hW _ _ hL _
  have hval : ∀ (j : Nat) t v, Tryd.f7.params[j]? = some t → args[j]? = some v → Value.okWide Tryd.prog W .any base t v := hval0
  have hW' := hW
  obtain ⟨p, q, hA0, hV, rfl, _, _⟩ := hW
  have hA : DataW.TrodAll enc Tryd.prog W 0 (fun _ => true) true Tryd.f7.params.toList args.toList ds p := hA0
  rw [Tryd.params7] at hA hval
  obtain ⟨v0, v1, d0, d1, p0, p1, rfl, rfl, rfl, h0, h1⟩ := trodAll_two hA
  obtain ⟨rfl, rfl⟩ := trodVars_none hV
  obtain ⟨a, ea, ha⟩ := open_bytes Tryd.underlying42 cells42 (hval 0 42 v0 rfl rfl) h0
  obtain ⟨b, eb, hb⟩ := open_bytes Tryd.underlying42 cells42 (hval 1 42 v1 rfl rfl) h1
  obtain ⟨p4, p6, z⟩ := of_laid hL
  rw [range4] at ea eb
  have hlt : ∀ x ∈ p0 ++ p1, x.block < W.heap.size := fun x hx => hW'.lt x (by simpa using hx)
  have k0 := fun (W' : World) (hbl : Below W.heap.size W W') => Below.trod Tryd.laidOut (by kernel_rfl) (of_decide_eq_true (by kernel_rfl)) h0 hbl (fun x hx => hlt x (by simp [hx]))
  have k1 := fun (W' : World) (hbl : Below W.heap.size W W') => Below.trod Tryd.laidOut (by kernel_rfl) (of_decide_eq_true (by kernel_rfl)) h1 hbl (fun x hx => hlt x (by simp [hx]))
  have hw := law7_any a b p4 p6 W z ha hb
  rw [← ea, ← eb] at hw
  refine hw.mono fun e W' ⟨he, hbl⟩ => ?_
  subst he
  exact ⟨_, rfl, _, _, _, [], _, [], hW', trodAll_mk1 (shut_bool Tryd.underlying4 _), trodAll_mk2 (k0 W' hbl) (k1 W' hbl), rfl, hbl.frame _, fun h => by cases h⟩

theorem fnWidthOfIPv4AgreesWithMapped_holds : Rows.FnWidthOfIPv4AgreesWithMappedSaid :=
  OpenClaim.holds_of_wide 7 Tryd.f7 rfl rfl rfl rfl rfl rfl rfl ⟨rfl, rfl, rfl, rfl, rfl⟩ rfl rfl rfl rfl rfl (by kernel_rfl) Tryd.func7 (by kernel_rfl)
    (of_decide_eq_true (by kernel_rfl)) (by unfold Func.isWrapper; first | (rw [if_pos (by decide +kernel)]; kernel_rfl) | (rw [if_neg (by decide +kernel)]; exact ⟨rfl, rfl⟩))
    (fun os started H enc _ => lifted7 os started H enc)

theorem fnWidthOfIPv4AgreesWithMapped_card : Rows.FnWidthOfIPv4AgreesWithMappedCardSaid :=
  Claim7.holds_tied_plain_at .later [] [.called, .called, .zero] true (true, "3a663f105561a7c8aefb9b88a77c86522873fc99c3a033d8c10ef070ae698ea4") false fnWidthOfIPv4AgreesWithMapped_holds (fun _ h => by cases h) (by kernel_rfl) (fun _ h => by cases h) fnWidthOfIPv4AgreesWithMapped_row_tie rfl ⟨rfl, rfl⟩ (by kernel_rfl) rfl
    (fun f fn hf hfn => by
      obtain rfl : f = 7 := Option.some.inj ((show Tryd.prog.funcNamed Tryd.f7.name = some 7 by kernel_rfl).symm.trans hf) |>.symm
      obtain rfl : fn = Tryd.f7 := (Option.some.inj (Tryd.func7.symm.trans hfn)).symm
      exact ⟨by kernel_rfl, fun j t ht => by
        rw [Tryd.params7] at ht
        have hm : t ∈ [42, 42] := by simpa using Array.mem_of_getElem? ht
        have hall : ([42, 42].all fun u => !Tryd.prog.wantsStandIn u) = true := by kernel_rfl
        exact (show Tryd.prog.wantsStandIn t = false by simpa using List.all_eq_true.1 hall t hm)⟩)
    (by kernel_rfl)
end Go.Proofs.Qxb6608729aDoor
