/-
  FnSlotLeafRenumbering: the law's walk at every input, the row, the card.
-/
import Derived.Test.Qxb6608729aDoorSlotF
import Derived.Test.Qxb6608729aDoorTie
import Derived.Test.Qxb6608729aDoorCards
import Derived.Handy
import Derived.Lay
import Derived.ProofKit
import Derived.OpenShut
import Derived.MakeChecks
import Derived.LaidMore
import Derived.SevenTiedAt
namespace Go.Proofs.Qxb6608729aDoor
set_option linter.unusedSimpArgs false
set_option linter.unusedVariables false
open Go.ChangeShapes Go.WideShapes Go.ChangeAt Go.RowKit

/-- What is known of a slice of integers that came in. -/
def IsRow (k : IntKind) (w : World) (a : Option Addr) (len cap : Nat) (zs : List Int) : Prop :=
  (a = none ∧ len = 0 ∧ cap = 0 ∧ zs = []) ∨
  ∃ x, a = some x ∧ len ≤ cap ∧ cap ≤ maxLen ∧ zs.length = cap ∧ (∀ i, i < zs.length → w.cell? (x.add i) = some (.int k (zs.getD i 0))) ∧ ∀ n ∈ zs, (Lit.int k n).wf = true
theorem IsRow.len {k : IntKind} {w : World} {a : Option Addr} {len cap : Nat} {zs : List Int} (h : IsRow k w a len cap zs) : len ≤ 9223372036854775807 := by
  rcases h with ⟨_, rfl, _⟩ | ⟨x, _, h1, h2, _⟩
  · omega
  · unfold maxLen at h2; omega
theorem IsRow.ints {k : IntKind} {w : World} {a : Option Addr} {len cap : Nat} {zs : List Int} (h : IsRow k w a len cap zs) (hl : 0 < len) : ∃ b o, a = some ⟨b, o, none⟩ ∧ Ints k b o len (fun m => zs.getD m 0) w := by
  rcases h with ⟨_, rfl, _⟩ | ⟨x, rfl, h1, h2, h3, h4, _⟩
  · omega
  · obtain ⟨b, o, rfl, hc⟩ := ints_at h4 (by omega)
    exact ⟨b, o, rfl, fun m hm => hc m (by omega)⟩

theorem law5_any (a1 a2 a3 : Option Addr) (n1 n2 n3 m1 m2 m3 : Nat) (y1 y2 y3 : List Int) (v4 : Bool) (i j h f : Int) (w : World) (r1 : IsRow .u64 w a1 n1 m1 y1) (r2 : IsRow .u64 w a2 n2 m2 y2) (r3 : IsRow .u32 w a3 n3 m3 y3) (hf0 : 0 ≤ f) :
    Calls Tryd.prog 5 #[.slice a1 n1 m1, .slice a2 n2 m2, .slice a3 n3 m3, .bool v4, .int .i64 i, .int .i64 j, .int .u64 h, .int .u64 f] w fun e w' => e = .returned (.bool true) ∧ Below w.heap.size w w' := by
  have no : (bytesB n1 n2 n3 = true → n1 ≤ 32768 → n2 ≤ 32768 → n3 ≤ 32768 → ∀ w, Calls Tryd.prog 16 #[.slice a1 n1 m1, .slice a2 n2 m2, .slice a3 n3 m3, .bool v4, .int .i64 i, .int .i64 j, .int .u64 h, .int .u64 f] w fun e w' => e = .returned (.bool false) ∧ w' = w) →
      Calls Tryd.prog 5 #[.slice a1 n1 m1, .slice a2 n2 m2, .slice a3 n3 m3, .bool v4, .int .i64 i, .int .i64 j, .int .u64 h, .int .u64 f] w fun e w' => e = .returned (.bool true) ∧ Below w.heap.size w w' := fun hno =>
    (law5_no a1 a2 a3 n1 n2 n3 m1 m2 m3 v4 i j h f w r1.len r2.len r3.len hno).mono fun e w' ⟨he, hw⟩ => ⟨he, hw ▸ Below.refl _ _⟩
  by_cases F : Fits n1 n2 n3 i j f
  · obtain ⟨rfl, rfl, f1, f2, f3, f4⟩ := F
    by_cases hb : bytesB n2 n2 n2 = true
    · by_cases hn : n2 ≤ 32768
      · obtain ⟨i, rfl⟩ := Int.eq_ofNat_of_zero_le f1
        obtain ⟨j, rfl⟩ := Int.eq_ofNat_of_zero_le (show 0 ≤ j by omega)
        obtain ⟨b1, o1, rfl, x1⟩ := r1.ints (by omega)
        obtain ⟨b2, o2, rfl, x2⟩ := r2.ints (by omega)
        obtain ⟨b3, o3, rfl, x3⟩ := r3.ints (by omega)
        by_cases g : j = i + 1
        · subst g
          exact law5_one b1 o1 m1 b2 o2 m2 b3 o3 m3 n2 _ _ _ v4 i h f w hn hb (by omega) f4 x1 x2 x3
        · by_cases g2 : f ≠ 0 ∨ v4 = true
          · exact no fun _ _ _ _ w => domain_bad _ _ _ n2 m1 m2 m3 v4 i j h f w hn (by omega) (by omega) hf0 f4 g2
          · obtain rfl : f = 0 := by
              rcases Classical.em (f = 0) with e | e
              · exact e
              · exact absurd (Or.inl e) g2
            obtain rfl : v4 = false := by
              cases v4
              · rfl
              · exact absurd (Or.inr rfl) g2
            by_cases g3 : (j : Int) - (i : Int) ≤ 9
            · exact law5_scan b1 o1 m1 b2 o2 m2 b3 o3 m3 n2 _ _ _ i j h w hn hb (by omega) (by omega) (by simp [kindOf, g3]) x1 x2 x3
            · exact law5_search b1 o1 m1 b2 o2 m2 b3 o3 m3 n2 _ _ _ i j h w hn hb (by omega) (by omega) (by simp [kindOf, g3]) x1 x2 x3
      · exact no fun _ h1 _ _ _ => absurd h1 hn
    · exact no fun h1 _ _ _ _ => absurd h1 hb
  · exact no fun _ _ _ h3 w => domain_no a1 a2 a3 n1 n2 n3 m1 m2 m3 v4 i j h f w h3 F

theorem own5 : ownKnob Tryd.prog.godebug = none := by kernel_rfl
theorem laidOut5 : laidOutB Tryd.prog = true := by kernel_rfl
/-- The two listed tables. -/
def laidTabs : List (String × DataW Unit) := Rows.fnSlotLeafRenumberingRow.laid

section
variable {H : Type} {enc : TypeId × Value → H} {W : World}
theorem open_row {k : IntKind} {t e : TypeId} {a : Option Addr} {len cap : Nat} {d : DataW H} {p : List MemPlace} (ht : Tryd.prog.underlying t = some (.slice e)) (he : Tryd.prog.underlying e = some (.int k)) (hc : Tryd.prog.cellsOf e = 1)
    (h : DataW.Trod enc Tryd.prog W 0 (fun _ => true) true t (.slice a len cap) d p) : ∃ zs, IsRow k W a len cap zs := by
  obtain ⟨fuel, hf⟩ := h
  rcases open_ints ht he hc hf with ⟨hcs, _⟩ | ⟨x, l, c, zs, hcs, _, hl, hm, hz, _, hcell, hwz⟩
  · simp [Value.cells] at hcs
    obtain ⟨rfl, rfl, rfl⟩ := hcs
    exact ⟨[], .inl ⟨rfl, rfl, rfl, rfl⟩⟩
  · simp [Value.cells] at hcs
    obtain ⟨rfl, rfl, rfl⟩ := hcs
    exact ⟨zs, .inr ⟨_, rfl, hl, hm, by simpa using hz, hcell, hwz⟩⟩
end

set_option maxRecDepth 100000 in
theorem lifted5 (os : Os) (started : os.Started) (H : Type) (enc : TypeId × Value → H) :
    ReturnsInHanded {} Tryd.checked os 5 .any (fun w args => (Rows.fnSlotLeafRenumberingSpec.pre enc Tryd.prog Tryd.f5 [] false w args ∧ laidMetH Tryd.prog laidTabs w) ∧ sizedMet enc Tryd.prog Tryd.f5 (OpenSpec.ofChange Rows.fnSlotLeafRenumberingSpec) false w args)
      (Rows.fnSlotLeafRenumberingSpec.post enc Tryd.prog Tryd.f5 false true false false) := by
  refine returnsInHanded_of_change_and (C := Tryd.checked) (X := fun w _ => laidMetH Tryd.prog laidTabs w) (fun _ _ _ hh h => h.of_heap hh) own5 started (by kernel_rfl) Tryd.func5
    (ChangeSpec.witness_shaped (enc := enc) (C := Tryd.checked) (os := os) (X := fun w _ => laidMetH Tryd.prog laidTabs w) false (World.laidAll Tryd.prog os laidTabs) #[.slice none 0 0, .slice none 0 0, .slice none 0 0, .bool false, .int .i64 0, .int .i64 0, .int .u64 0, .int .u64 0] 8 (World.laidAll_os _ _ _)
      (World.shaped_of_ZipB (by kernel_rfl) (by kernel_rfl)) (by kernel_rfl) (by kernel_rfl) (by kernel_rfl)
      (by rw [MakeChecks.laidMetH_plain _ _ _ (by kernel_rfl)]; exact laidMet_laidAll _ (by kernel_rfl) (by kernel_rfl))) ?_
  intro W base args ds gs before hval0 hW _ _ hL _
  have hval : ∀ (j : Nat) t v, Tryd.f5.params[j]? = some t → args[j]? = some v → Value.okWide Tryd.prog W .any base t v := hval0
  have hW' := hW
  obtain ⟨p, q, hA0, hV, rfl, _, _⟩ := hW
  have hA : DataW.TrodAll enc Tryd.prog W 0 (fun _ => true) true Tryd.f5.params.toList args.toList ds p := hA0
  rw [Tryd.params5] at hA hval
  obtain ⟨v0, vs0, d0, ds0, p0, q0, hargs, rfl, rfl, h0, t0⟩ := trodAll_cons hA
  obtain ⟨v1, vs1, d1, ds1, p1, q1, rfl, rfl, rfl, h1, t1⟩ := trodAll_cons t0
  obtain ⟨v2, vs2, d2, ds2, p2, q2, rfl, rfl, rfl, h2, t2⟩ := trodAll_cons t1
  obtain ⟨v3, vs3, d3, ds3, p3, q3, rfl, rfl, rfl, h3, t3⟩ := trodAll_cons t2
  obtain ⟨v4, vs4, d4, ds4, p4, q4, rfl, rfl, rfl, h4, t4⟩ := trodAll_cons t3
  obtain ⟨v5, vs5, d5, ds5, p5, q5, rfl, rfl, rfl, h5, t5⟩ := trodAll_cons t4
  obtain ⟨v6, vs6, d6, ds6, p6, q6, rfl, rfl, rfl, h6, t6⟩ := trodAll_cons t5
  obtain ⟨v7, vs7, d7, ds7, p7, q7, rfl, rfl, rfl, h7, t7⟩ := trodAll_cons t6
  obtain ⟨rfl, rfl, rfl⟩ := trodAll_nil t7
  obtain rfl : args = #[v0, v1, v2, v3, v4, v5, v6, v7] := by cases args; simp_all
  obtain ⟨rfl, rfl⟩ := trodVars_none hV
  obtain ⟨a0, n0, c0, rfl⟩ := okWide_slice Tryd.underlying28 (hval 0 28 v0 rfl rfl)
  obtain ⟨a1, n1, c1, rfl⟩ := okWide_slice Tryd.underlying28 (hval 1 28 v1 rfl rfl)
  obtain ⟨a2, n2, c2, rfl⟩ := okWide_slice Tryd.underlying29 (hval 2 29 v2 rfl rfl)
  obtain ⟨b, rfl, rfl, rfl⟩ := open_bool Tryd.underlying4 (hval 3 4 v3 rfl rfl) h3
  obtain ⟨i, rfl, rfl, rfl, wi⟩ := open_int Tryd.underlying3 (hval 4 3 v4 rfl rfl) h4
  obtain ⟨j, rfl, rfl, rfl, wj⟩ := open_int Tryd.underlying3 (hval 5 3 v5 rfl rfl) h5
  obtain ⟨h, rfl, rfl, rfl, wh⟩ := open_int Tryd.underlying30 (hval 6 30 v6 rfl rfl) h6
  obtain ⟨f, rfl, rfl, rfl, wf⟩ := open_int Tryd.underlying31 (hval 7 31 v7 rfl rfl) h7
  have lt0 : ∀ x ∈ p0, x.block < W.heap.size := by obtain ⟨m, hm⟩ := h0; exact DataW.trod_lt m _ _ _ hm
  have lt1 : ∀ x ∈ p1, x.block < W.heap.size := by obtain ⟨m, hm⟩ := h1; exact DataW.trod_lt m _ _ _ hm
  have lt2 : ∀ x ∈ p2, x.block < W.heap.size := by obtain ⟨m, hm⟩ := h2; exact DataW.trod_lt m _ _ _ hm
  obtain ⟨z0, r0⟩ := open_row Tryd.underlying28 Tryd.underlying30 (by kernel_rfl) h0
  obtain ⟨z1, r1⟩ := open_row Tryd.underlying28 Tryd.underlying30 (by kernel_rfl) h1
  obtain ⟨z2, r2⟩ := open_row Tryd.underlying29 Tryd.underlying35 (by kernel_rfl) h2
  have hf0 : 0 ≤ f := by simp [Lit.wf, IntKind.min, IntKind.max, IntKind.signed, IntKind.bits] at wf; omega
  clear hA0 hval0
  refine (law5_any a0 a1 a2 n0 n1 n2 c0 c1 c2 z0 z1 z2 b i j h f W r0 r1 r2 hf0).mono fun e W' ⟨he, bel⟩ => ?_
  subst he
  exact ⟨_, rfl, _, _, _, [], _, [], hW', trodAll_mk1 (shut_bool Tryd.underlying4 _),
    (trodAll_cons_mk (Below.trod laidOut5 (by kernel_rfl) (of_decide_eq_true (by kernel_rfl)) h0 bel lt0) (trodAll_cons_mk (Below.trod laidOut5 (by kernel_rfl) (of_decide_eq_true (by kernel_rfl)) h1 bel lt1) (trodAll_cons_mk (Below.trod laidOut5 (by kernel_rfl) (of_decide_eq_true (by kernel_rfl)) h2 bel lt2)
      (trodAll_cons_mk (shut_bool Tryd.underlying4 b) (trodAll_cons_mk (shut_int Tryd.underlying3 wi) (trodAll_cons_mk (shut_int Tryd.underlying3 wj) (trodAll_cons_mk (shut_int Tryd.underlying30 wh) (trodAll_cons_mk (shut_int Tryd.underlying31 wf) trodAll_mk0)))))))),
    rfl, bel.frame _, fun h => by cases h⟩

theorem fnSlotLeafRenumbering_holds : Rows.FnSlotLeafRenumberingSaid :=
  OpenClaim.holds_of_wide 5 Tryd.f5 rfl rfl rfl rfl rfl rfl rfl ⟨rfl, rfl, rfl, rfl, rfl⟩ rfl rfl rfl rfl rfl (by kernel_rfl) Tryd.func5 (by kernel_rfl)
    (of_decide_eq_true (by kernel_rfl)) (by unfold Func.isWrapper; first | (rw [if_pos (by decide +kernel)]; kernel_rfl) | (rw [if_neg (by decide +kernel)]; exact ⟨rfl, rfl⟩))
    (fun os started H enc _ => lifted5 os started H enc)

theorem fnSlotLeafRenumbering_card : Rows.FnSlotLeafRenumberingCardSaid :=
  Claim7.holds_tied_plain_at .later [] [.data, .data] true (true, "3a663f105561a7c8aefb9b88a77c86522873fc99c3a033d8c10ef070ae698ea4") false fnSlotLeafRenumbering_holds (fun _ h => by cases h) (by kernel_rfl) (fun _ h => by cases h) fnSlotLeafRenumbering_row_tie rfl ⟨rfl, rfl⟩ (by kernel_rfl) rfl
    (fun f fn hf hfn => by
      obtain rfl : f = 5 := Option.some.inj ((show Tryd.prog.funcNamed Tryd.f5.name = some 5 by kernel_rfl).symm.trans hf) |>.symm
      obtain rfl : fn = Tryd.f5 := (Option.some.inj (Tryd.func5.symm.trans hfn)).symm
      exact ⟨by kernel_rfl, fun j t ht => by
        rw [Tryd.params5] at ht
        have hm : t ∈ [28, 28, 29, 4, 3, 3, 30, 31] := by simpa using Array.mem_of_getElem? ht
        have hall : ([28, 28, 29, 4, 3, 3, 30, 31].all fun u => !Tryd.prog.wantsStandIn u) = true := by kernel_rfl
        exact (show Tryd.prog.wantsStandIn t = false by simpa using List.all_eq_true.1 hall t hm)⟩)
    (by kernel_rfl)
end Go.Proofs.Qxb6608729aDoor
