/-
  FnErrorsAddReversedScriptReversesOnlyTies: the row (the frame by the guide's proof-skeleton tool, for this program).
-/
import Derived.Test.Qxb6608988aRows
import Derived.Test.Qxb6608988aLaw6
import Derived.Test.Qxb6608988aOpen
import Derived.WalkKit
import Derived.ProofKit
import Derived.OpenShut
import Derived.ChangeOld
import Derived.Below
namespace Go.Proofs.Qxb6608988a
open Go.ChangeShapes Go.WideShapes Go.ChangeAt Go.RowKit
set_option linter.unusedVariables false
set_option linter.unusedSimpArgs false

theorem own : ownKnob Try.prog.godebug = none := by kernel_rfl
theorem laidOut : laidOutB Try.prog = true := by kernel_rfl

set_option maxRecDepth 8000 in
set_option maxHeartbeats 1000000 in
theorem law6_big (L C : Nat → Int) (M : Nat → ByteArray) (a : Option Addr) (n c : Nat) (w : World) (hn : 4096 < n) (r : Fl a n L C M w) :
    Calls Try.prog 6 #[.slice a n c] w fun e w' => e = .returned (.bool true) ∧ Below w.heap.size w w' := by
  have h26 := bytes_26 a n c L C M w r
  have hn' : (4096 : Int) < (n : Int) := by omega
  go_enter Try.func6, Try.ntmps6
  go_wp2_with (first
    | (go_at_call 26; refine h26.mono ?_; rintro e w' ⟨⟨b, rfl⟩, hw⟩; obtain rfl := hw.symm))
  all_goals first
    | (go_ret; exact ⟨rfl, Below.refl _ _⟩)
    | omega

theorem law6 (L C : Nat → Int) (M : Nat → ByteArray) (a : Option Addr) (n c : Nat) (w : World) (r : Fl a n L C M w) (hnil : a = none → n = 0) :
    Calls Try.prog 6 #[.slice a n c] w fun e w' => e = .returned (.bool true) ∧ Below w.heap.size w w' := by
  by_cases hn : n ≤ 4096
  · exact law6_some a n c w hn r hnil
  · exact law6_big L C M a n c w (by omega) r

set_option maxRecDepth 100000 in
theorem lifted6 (os : Os) (started : os.Started) (H : Type) (enc : TypeId × Value → H) :
    ReturnsInHanded {} Try.checked os 6 .any (Rows.fnErrorsAddReversedScriptReversesOnlyTiesSpec.pre6 enc Try.prog Try.f6 Rows.fnErrorsAddReversedScriptReversesOnlyTiesRow.domain false) (Rows.fnErrorsAddReversedScriptReversesOnlyTiesSpec.post enc Try.prog Try.f6 false true false false) := by
  refine returnsInHanded_of_change (C := Try.checked) own started (by kernel_rfl) Try.func6
    (ChangeSpec.witness6 (enc := enc) (C := Try.checked) false ⟨#[], #[.slice none 0 0], []⟩ 8 (by kernel_rfl) (by kernel_rfl) (by kernel_rfl) (by kernel_rfl)) ?_
  intro W base args ds gs before hval0 hW hcnd _
  have hval : ∀ (j : Nat) t v, Try.f6.params[j]? = some t → args[j]? = some v → Value.okWide Try.prog W .any base t v := hval0
  have hW' := hW
  obtain ⟨p, q, hA0, hV, rfl, hfz, hnd⟩ := hW
  have hA : DataW.TrodAll enc Try.prog W 0 (fun _ => true) true Try.f6.params.toList args.toList ds p := hA0
  rw [Try.params6] at hA hval
  obtain ⟨v0, vs0, d0, ds0, p0, q0, hargs, rfl, rfl, h0, r0⟩ := trodAll_cons hA
  obtain ⟨rfl, rfl, rfl⟩ := trodAll_nil r0
  obtain rfl : args = #[v0] := by cases args; simp_all
  obtain ⟨rfl, rfl⟩ := trodVars_none hV
  obtain ⟨a0, len0, cap0, rfl⟩ := okWide_slice Try.underlying46 (hval 0 46 v0 rfl rfl)
  have k0 := h0
  have lt0 : ∀ x ∈ p0, x.block < W.heap.size := by obtain ⟨m, hm⟩ := k0; exact DataW.trod_lt m _ _ _ hm
  obtain ⟨fuel, hf⟩ := h0
  obtain ⟨L, C, M, hFl, hnil⟩ := open_faults hf
  clear hA0 hval0
  refine (law6 L C M a0 len0 cap0 W hFl hnil).mono fun e W' ⟨he, bel⟩ => ?_
  subst he
  exact ⟨_, rfl, _, _, _, [], _, [], hW', trodAll_mk1 (shut_bool Try.underlying4 _), (trodAll_cons_mk (Below.trod laidOut (by kernel_rfl) (of_decide_eq_true (by kernel_rfl)) k0 bel lt0) trodAll_mk0), rfl, bel.frame _, fun h => by cases h⟩

theorem over6 : Rows.fnErrorsAddReversedScriptReversesOnlyTiesRow.holds Try.pinned (OpenSpec.ofChange Rows.fnErrorsAddReversedScriptReversesOnlyTiesSpec) :=
  OpenClaim.holds_of_wide 6 Try.f6 rfl rfl rfl rfl rfl rfl rfl ⟨rfl, rfl, rfl, rfl, rfl⟩ rfl rfl rfl rfl rfl (by kernel_rfl) Try.func6 (by kernel_rfl)
    (of_decide_eq_true (by kernel_rfl)) (by unfold Func.isWrapper; first | (rw [if_pos (by decide +kernel)]; kernel_rfl) | (rw [if_neg (by decide +kernel)]; exact ⟨rfl, rfl⟩))
    (fun os started H enc _ => lifted6 os started H enc)

/-- The statement. -/
theorem fnErrorsAddReversed_proved : Rows.FnErrorsAddReversedScriptReversesOnlyTiesSaid := over6
end Go.Proofs.Qxb6608988a
