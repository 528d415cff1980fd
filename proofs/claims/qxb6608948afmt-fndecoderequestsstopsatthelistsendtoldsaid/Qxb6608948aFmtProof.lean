/-
  FnDecodeRequestsStopsAtTheListsEnd: the row and its card (told and tied).
-/
import Derived.Test.Qxb6608948aFmtCards
import Derived.Test.Qxb6608948aFmtTie
import Derived.Test.Qxb6608948aFmtLaw
import Derived.ProofKit
import Derived.OpenShut
import Derived.ChangeOld
import Derived.ChangeSame
import Derived.ChangeVars
import Derived.ChangeMaps5
import Derived.JoinedOf
import Derived.RowKit
import Derived.RowKitTokens
import Derived.Stop.JoinedAt
import Derived.Stop.JoinedTold
import Derived.Stop.Texts
import Derived.Stop.ErrReads
import Derived.Stop.LaidErr
import Derived.SevenTiedAt
namespace Go.Proofs.Qxb6608948aFmt
open Go.ChangeShapes Go.WideShapes Go.ChangeAt Go.RowKit Go.Kit
open Go.Extern.Stop Go.Stop Go.Extern
set_option linter.unusedVariables false
set_option linter.unusedSimpArgs false

set_option maxRecDepth 8000 in
set_option maxHeartbeats 2000000 in
theorem law3_big (a a' : Option Addr) (n c n' c' : Nat) (w : World) (h1 : n ≤ 9223372036854775807) (h2 : n' ≤ 9223372036854775807) (hn : 1048576 < n + n') :
    Calls Tryf.prog 3 #[.slice a n c, .slice a' n' c'] w fun e w' => e = .returned (.bool true) ∧ Below w.heap.size w w' := by
  have h4 := bytes_4 a a' n c n' c' w h1 h2
  by_cases hb : n ≤ 1048576
  · have hb1 : (n : Int) ≤ 1048576 := by omega
    have hb2 : 1048576 - (n : Int) < (n' : Int) := by omega
    have hwn : IntKind.i64.wrap (1048576 - (n : Int)) = 1048576 - (n : Int) := by rw [IntKind.wrap_i64]; omega
    go_enter Tryf.func3, Tryf.ntmps3
    go_wp2_with (go_at_call 4; refine h4.mono ?_; rintro e w' ⟨⟨b, rfl⟩, hw⟩; obtain rfl := hw.symm)
    all_goals (go_ret; exact ⟨rfl, Below.refl _ _⟩)
  · have hb1 : (1048576 : Int) < (n : Int) := by omega
    go_enter Tryf.func3, Tryf.ntmps3
    go_wp2_with (go_at_call 4; refine h4.mono ?_; rintro e w' ⟨⟨b, rfl⟩, hw⟩; obtain rfl := hw.symm)
    all_goals (go_ret; exact ⟨rfl, Below.refl _ _⟩)

/-- A slice of bytes that came in. -/
def IsRow (w : World) (a : Option Addr) (n c : Nat) (f : Nat → UInt8) : Prop :=
  n ≤ 9223372036854775807 ∧ (a = none → n = 0 ∧ c = 0) ∧ Rd a n (fun m => ((f m).toNat : Int)) w

theorem law3 (F : Interp) (a a' : Option Addr) (n c n' c' : Nat) (f g : Nat → UInt8) (w : World) (hF : F.answers w.tape) (hS : Sen w) (r : IsRow w a n c f) (r' : IsRow w a' n' c' g) :
    Calls Tryf.prog 3 #[.slice a n c, .slice a' n' c'] w fun e w' => e = .returned (.bool true) ∧ Below w.heap.size w w' := by
  by_cases hn : n + n' ≤ 1048576
  · exact law3_some F a a' n c n' c' f g w hF hS hn r.2.2 r'.2.2 r.2.1 r'.2.1
  · exact law3_big a a' n c n' c' w r.1 r'.1 (by omega)

theorem open_bytes {H : Type} {enc : TypeId × Value → H} {w : World} {base fuel : Nat} {spare : Nat → Bool} {held : Bool} {a : Option Addr} {n c : Nat} {x : DataW H × List MemPlace}
    (h : DataW.trod enc Tryf.prog w base spare held fuel 22 [.slice a n c] = some x) : ∃ f, IsRow w a n c f := by
  rcases open_ints Tryf.underlying22 Tryf.underlying5 (by kernel_rfl) h with ⟨hcs, _⟩ | ⟨x, l, c0, zs, hcs, _, hl, hm, hz, _, hcell, hwz⟩
  · simp at hcs
    obtain ⟨rfl, rfl, rfl⟩ := hcs
    exact ⟨fun _ => 0, by omega, fun _ => ⟨rfl, rfl⟩, fun h => by omega⟩
  · simp at hcs
    obtain ⟨rfl, rfl, rfl⟩ := hcs
    unfold maxLen at hm
    refine ⟨fun m => UInt8.ofNat (zs.getD m 0).toNat, by omega, (fun h => by cases h), fun h0 => ?_⟩
    have hz' : n ≤ zs.length := by rw [hz]; split <;> omega
    obtain ⟨b, o, rfl, hc⟩ := ints_at hcell (by omega)
    refine ⟨b, o, rfl, fun m hm' => ?_⟩
    rw [hc m (by omega)]
    have hmem : zs.getD m 0 ∈ zs := by
      rw [List.getD_eq_getElem?_getD, List.getElem?_eq_getElem (by omega)]
      exact List.getElem_mem _
    have hw := hwz _ hmem
    obtain ⟨z, hzz⟩ : ∃ z, z = zs.getD m 0 := ⟨_, rfl⟩
    show some (Value.int .u8 (zs.getD m 0)) = some (Value.int .u8 ((UInt8.ofNat (zs.getD m 0).toNat).toNat : Int))
    rw [← hzz] at hw ⊢
    simp [Lit.wf, IntKind.min, IntKind.max, IntKind.signed, IntKind.bits] at hw
    congr 2
    simp only [UInt8.toNat_ofNat']
    omega

theorem own : ownKnob Tryf.prog.godebug = none := by kernel_rfl
theorem laidOut : laidOutB Tryf.pinned.checked.prog = true := by kernel_rfl
theorem laidOut' : laidOutB Tryf.prog = true := by kernel_rfl
theorem stops : Tryf.pinned.checked.prog.stops = ["fmt.errorf"] := by kernel_rfl
theorem stopKnobs : Tryf.pinned.checked.prog.stopKnobs = [] := by kernel_rfl
theorem quiet (os : Os) : Stop.quiet Tryf.pinned.checked.prog os := by
  intro k hk
  rw [stopKnobs] at hk
  cases hk
theorem gType : (Tryf.prog.globals[1]?).map (·.type) = some 33 := by kernel_rfl
theorem cells61 : Tryf.prog.cellsOf 61 = 1 := by kernel_rfl
theorem cells9 : Tryf.prog.cellsOf 9 = 1 := by kernel_rfl
theorem star : "*" ++ "errors.errorString" = "*errors.errorString" := by decide
theorem row59 (u : TypeId) (h : Tryf.prog.typeName? 3 u = some "*errors.errorString") : u = 59 :=
  typeName_ptr_named (nm := "errors.errorString") (by rw [star]; kernel_rfl) (by kernel_rfl) (by decide) u (by rw [star]; exact h)

/-! ### One start that fits -/
abbrev shortS : ByteArray := { data := #[101, 110, 100, 115, 32, 101, 97, 114, 108, 121] }
noncomputable def low : Nat := (World.holding Tryf.prog default ⟨#[], #[], []⟩).heap.size
noncomputable def laidWorld (os : Os) : World :=
  let w0 := World.holding Tryf.prog os ⟨#[.cells #[.string shortS] 61], #[], []⟩
  { w0 with heap := w0.heap.modify 1 fun
      | .cells _ t frozen => .cells #[.iface 59 (.pointer (some ⟨low, 0, none⟩))] t frozen
      | o => o }
theorem laid_met (os : Os) (args : Array Value) : laidMet Tryf.prog Rows.fnDecodeRequestsStopsAtTheListsEndRow.laid ((laidWorld os).forCall (fun _ _ => 0) ⟨#[], args, []⟩).memory :=
  laidMet_of_run (ps := [.cell 1 0, .cell low 0]) 8 (by kernel_rfl) (by kernel_rfl) (by kernel_rfl)

theorem var_below {P : Program} {B g : Nat} {W W' : World} {n : String} {cs : Array Value} (h : Below B W W') (hg : P.globalNamed n = some g) (hgB : g < B) (hv : W.var? P n = some cs) : W'.var? P n = some cs := by
  unfold World.var? at hv ⊢
  simp only [hg, Option.bind_some] at hv ⊢
  rw [h.block g hgB]
  exact hv

set_option maxRecDepth 100000 in
theorem lifted (os : Os) (started : os.Started) (H : Type) (enc : TypeId × Value → H) :
    ReturnsInTold none {} Tryf.checked os 3 .any Input.okWide ((OpenSpec.ofChange Rows.fnDecodeRequestsStopsAtTheListsEndSpec).preRow enc Tryf.prog Tryf.f3 Rows.fnDecodeRequestsStopsAtTheListsEndRow.domain false Rows.fnDecodeRequestsStopsAtTheListsEndRow.laid) (fun F => ((OpenSpec.ofChange Rows.fnDecodeRequestsStopsAtTheListsEndSpec).at F).post enc Tryf.prog Tryf.f3 false true false false) (aloneAtReturn Tryf.prog) nothingAlways := by
  refine returnsInTold_of_row (C := Tryf.checked) (s := OpenSpec.ofChange Rows.fnDecodeRequestsStopsAtTheListsEndSpec) (by kernel_rfl) own started (by kernel_rfl) Tryf.func3
    (OpenSpec.witness_stopped_at (enc := enc) (C := Tryf.checked) false (laidWorld os) #[.slice none 0 0, .slice none 0 0] rfl (by kernel_rfl) (by kernel_rfl) (by kernel_rfl)
      (OpenSpec.preRow_of_B rfl 8 (by kernel_rfl) (by kernel_rfl) (laid_met os _))) ?_
  intro F W base args ds gs before _ hF hval0 hW _ _ _ hL _
  have hval : ∀ (j : Nat) t v, Tryf.f3.params[j]? = some t → args[j]? = some v → Value.okWide Tryf.prog W .any base t v := hval0
  have hW' := hW
  obtain ⟨p, q, hA0, hV0, rfl, hfz, hnd⟩ := hW
  have hA : DataW.TrodAll enc Tryf.prog W 0 (fun _ => true) true Tryf.f3.params.toList args.toList ds p := hA0
  rw [Tryf.params3] at hA hval
  obtain ⟨v0, vs0, d0, ds0, p0, q0, hargs, rfl, rfl, h0, r0⟩ := trodAll_cons hA
  obtain ⟨v1, vs1, d1, ds1, p1, q1, rfl, rfl, rfl, h1, r1⟩ := trodAll_cons r0
  obtain ⟨rfl, rfl, rfl⟩ := trodAll_nil r1
  obtain rfl : args = #[v0, v1] := by cases args; simp_all
  obtain ⟨a1, s1, hv1, hc1, hs1, hz1⟩ := laid_sentinel (g := 1) hL (by kernel_rfl) gType Tryf.underlying33 row59 Tryf.underlying59 Tryf.underlying61 rfl rfl Tryf.underlying9 cells61 cells9
  obtain ⟨rfl, rfl⟩ := hV0.unique (vars_read1 enc (g := 1) (by kernel_rfl) gType Tryf.underlying33 hv1 trivial _)
  obtain ⟨a0, len0, cap0, rfl⟩ := okWide_slice Tryf.underlying22 (hval 0 22 v0 rfl rfl)
  obtain ⟨a2, len2, cap2, rfl⟩ := okWide_slice Tryf.underlying22 (hval 1 22 v1 rfl rfl)
  have k0 := h0
  have k1 := h1
  have lt0 : ∀ x ∈ p0, x.block < W.heap.size := by obtain ⟨m, hm⟩ := k0; exact DataW.trod_lt m _ _ _ hm
  have lt1 : ∀ x ∈ p1, x.block < W.heap.size := by obtain ⟨m, hm⟩ := k1; exact DataW.trod_lt m _ _ _ hm
  obtain ⟨fuel0, hf0⟩ := h0
  obtain ⟨fuel1, hf1⟩ := h1
  obtain ⟨f, hr0⟩ := open_bytes hf0
  obtain ⟨g, hr1⟩ := open_bytes hf1
  have hg1 : W.cell? ⟨1, 0, none⟩ = some (.iface 59 (.pointer (some a1))) := by simpa using World.var?_cell (P := Tryf.prog) (g := 1) (by kernel_rfl) hv1 0
  clear hA0 hV0 hval0
  refine (law3 F.told a0 a2 len0 cap0 len2 cap2 f g W hF ⟨_, _, hg1⟩ hr0 hr1).mono fun e W' ⟨he, bel⟩ => ?_
  subst he
  refine ⟨_, rfl, _, _, _, [], p0 ++ (p1 ++ []), [.cell 1 0], hW', ?_, ?_, ?_, ?_, fun h => by cases h⟩
  · exact trodAll_mk1 (shut_bool Tryf.underlying4 _)
  · exact trodAll_cons_mk (Below.trod laidOut' (by kernel_rfl) (of_decide_eq_true (by kernel_rfl)) k0 bel lt0) (trodAll_cons_mk (Below.trod laidOut' (by kernel_rfl) (of_decide_eq_true (by kernel_rfl)) k1 bel lt1) trodAll_mk0)
  · exact vars_read1 enc (g := 1) (by kernel_rfl) gType Tryf.underlying33 (var_below (g := 1) bel (by kernel_rfl) (World.block_lt_of_cell? W ⟨1, 0, none⟩ hg1) hv1) trivial _
  · exact bel.frame _

theorem fnDecodeRequests_told : Rows.FnDecodeRequestsStopsAtTheListsEndToldSaid :=
  Claim7.holds_of_told_tied_any_at .later 3 Tryf.f3 "fmt.errorf" [] [] _ _ _ _ _ (by kernel_rfl) rfl rfl rfl laidOut (by kernel_rfl) rfl ⟨rfl, rfl, rfl, rfl, rfl, rfl, rfl⟩ rfl rfl (by kernel_rfl) (by kernel_rfl) Tryf.func3 (by kernel_rfl)
    (of_decide_eq_true (by kernel_rfl)) (by unfold Func.isWrapper; first | (rw [if_pos (by decide +kernel)]; kernel_rfl) | (rw [if_neg (by decide +kernel)]; exact ⟨rfl, rfl⟩)) stops.symm rfl stopKnobs.symm (by kernel_rfl)
    (by kernel_rfl) (by kernel_rfl) (by kernel_rfl) (by kernel_rfl) (by kernel_rfl) (by kernel_rfl) (by kernel_rfl) (by kernel_rfl) (by kernel_rfl) rfl (by kernel_rfl) rfl rfl
    rfl rfl
    rfl (by kernel_rfl) (by kernel_rfl) (by kernel_rfl) (by decide) (by kernel_rfl) fnDecodeRequestsStopsAtTheListsEnd_row_tie
    (OpenClaim.moreEntering_of (by kernel_rfl) (by kernel_rfl) (by kernel_rfl) (by kernel_rfl) (by kernel_rfl) (by kernel_rfl) (by kernel_rfl) (by kernel_rfl) (by kernel_rfl) (by kernel_rfl))
    ⟨_, WideRow.started_initial, quiet _⟩
    (fun os started _ H enc _ => lifted os started H enc)
end Go.Proofs.Qxb6608948aFmt
