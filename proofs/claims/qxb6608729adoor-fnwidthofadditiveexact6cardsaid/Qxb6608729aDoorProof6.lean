/-
  FnWidthOfAdditiveExact6: the plain law, the law's walk at every input, the row, the card.
-/
import Derived.Test.Qxb6608729aDoorLaw6
import Derived.Test.Qxb6608729aDoorOpen
import Derived.Test.Qxb6608729aDoorTie
import Derived.Test.Qxb6608729aDoorCards
import Derived.SevenTiedAt
namespace Go.Proofs.Qxb6608729aDoor
set_option linter.unusedSimpArgs false
set_option linter.unusedVariables false
open Go.ChangeShapes Go.WideShapes Go.ChangeAt Go.RowKit

/-! ### The plain law -/
theorem hiW_seg (a : Nat → Int) : hiW a = seg a 0 8 := by simp only [hiW, be8, seg, Nat.zero_add]; omega
theorem loW_seg (a : Nat → Int) : loW a = seg a 8 8 := by
  simp only [loW, be8, seg, Nat.add_zero]
  simp only [show (8 + 1 : Nat) = 9 from rfl, show (8 + 2 : Nat) = 10 from rfl, show (8 + 3 : Nat) = 11 from rfl, show (8 + 4 : Nat) = 12 from rfl, show (8 + 5 : Nat) = 13 from rfl, show (8 + 6 : Nat) = 14 from rfl, show (8 + 7 : Nat) = 15 from rfl]
  omega
theorem seg8_word (x : Nat → Int) (o : Nat) (ho : o + 8 ≤ 16) (h : ∀ i, i < 16 → 0 ≤ x i ∧ x i ≤ 255) : 0 ≤ seg x o 8 ∧ seg x o 8 < 18446744073709551616 := by
  have := seg_bd x o h 8 ho
  rw [show (256 : Int) ^ 8 = 18446744073709551616 from by decide] at this
  exact this
/-- The width is the difference: word by word. -/
theorem width_words (ah al bh bl dh dl : Int) (h1 : Word ah) (h2 : Word al) (h3 : Word bh) (h4 : Word bl) (h5 : Word dh) (h6 : Word dl)
    (e : dh * 18446744073709551616 + dl = (bh * 18446744073709551616 + bl) - (ah * 18446744073709551616 + al)) : dhi bh bl ah al = dh ∧ dlo bl al = dl := by
  obtain ⟨_, _⟩ := h1; obtain ⟨_, _⟩ := h2; obtain ⟨_, _⟩ := h3; obtain ⟨_, _⟩ := h4; obtain ⟨_, _⟩ := h5; obtain ⟨_, _⟩ := h6
  unfold dhi dlo bor
  split <;> omega
/-- Widths add up: the low words, the carry, the high words. -/
theorem width_add (ah al bh bl ch cl : Int) (h1 : Word ah) (h2 : Word al) (h3 : Word bh) (h4 : Word bl) (h5 : Word ch) (h6 : Word cl) :
    IntKind.u64.wrap (dlo bl al + dlo cl bl) = dlo cl al ∧
    (dlo cl al < dlo bl al → IntKind.u64.wrap (IntKind.u64.wrap (dhi bh bl ah al + dhi ch cl bh bl) + 1) = dhi ch cl ah al) ∧
    (¬ dlo cl al < dlo bl al → IntKind.u64.wrap (dhi bh bl ah al + dhi ch cl bh bl) = dhi ch cl ah al) ∧ IntKind.u64.wrap (dhi ch cl ah al) = dhi ch cl ah al := by
  obtain ⟨_, _⟩ := h1; obtain ⟨_, _⟩ := h2; obtain ⟨_, _⟩ := h3; obtain ⟨_, _⟩ := h4; obtain ⟨_, _⟩ := h5; obtain ⟨_, _⟩ := h6
  simp only [IntKind.wrap_u64]
  unfold dhi dlo bor
  refine ⟨by omega, fun h => ?_, fun h => ?_, by omega⟩
  · split <;> split <;> split <;> omega
  · split <;> split <;> split <;> omega

theorem law6_any (a b c : Nat → Int) (p4 p6 : Addr) (w : World) (z : Zs p4 p6 w) (ha : ∀ i, Byte (a i)) (hb : ∀ i, Byte (b i)) (hc : ∀ i, Byte (c i)) :
    Calls Tryd.prog 6 #[.agg #[.int .u8 (a 0), .int .u8 (a 1), .int .u8 (a 2), .int .u8 (a 3), .int .u8 (a 4), .int .u8 (a 5), .int .u8 (a 6), .int .u8 (a 7), .int .u8 (a 8), .int .u8 (a 9), .int .u8 (a 10), .int .u8 (a 11), .int .u8 (a 12), .int .u8 (a 13), .int .u8 (a 14), .int .u8 (a 15)], .agg #[.int .u8 (b 0), .int .u8 (b 1), .int .u8 (b 2), .int .u8 (b 3), .int .u8 (b 4), .int .u8 (b 5), .int .u8 (b 6), .int .u8 (b 7), .int .u8 (b 8), .int .u8 (b 9), .int .u8 (b 10), .int .u8 (b 11), .int .u8 (b 12), .int .u8 (b 13), .int .u8 (b 14), .int .u8 (b 15)], .agg #[.int .u8 (c 0), .int .u8 (c 1), .int .u8 (c 2), .int .u8 (c 3), .int .u8 (c 4), .int .u8 (c 5), .int .u8 (c 6), .int .u8 (c 7), .int .u8 (c 8), .int .u8 (c 9), .int .u8 (c 10), .int .u8 (c 11), .int .u8 (c 12), .int .u8 (c 13), .int .u8 (c 14), .int .u8 (c 15)]] w fun e w' => e = .returned (.bool true) ∧ Below w.heap.size w w' := by
  rcases h1 : leB a b with _ | _
  · exact law6_no1 [.int .u8 (a 0), .int .u8 (a 1), .int .u8 (a 2), .int .u8 (a 3), .int .u8 (a 4), .int .u8 (a 5), .int .u8 (a 6), .int .u8 (a 7), .int .u8 (a 8), .int .u8 (a 9), .int .u8 (a 10), .int .u8 (a 11), .int .u8 (a 12), .int .u8 (a 13), .int .u8 (a 14), .int .u8 (a 15)] [.int .u8 (b 0), .int .u8 (b 1), .int .u8 (b 2), .int .u8 (b 3), .int .u8 (b 4), .int .u8 (b 5), .int .u8 (b 6), .int .u8 (b 7), .int .u8 (b 8), .int .u8 (b 9), .int .u8 (b 10), .int .u8 (b 11), .int .u8 (b 12), .int .u8 (b 13), .int .u8 (b 14), .int .u8 (b 15)] [.int .u8 (c 0), .int .u8 (c 1), .int .u8 (c 2), .int .u8 (c 3), .int .u8 (c 4), .int .u8 (c 5), .int .u8 (c 6), .int .u8 (c 7), .int .u8 (c 8), .int .u8 (c 9), .int .u8 (c 10), .int .u8 (c 11), .int .u8 (c 12), .int .u8 (c 13), .int .u8 (c 14), .int .u8 (c 15)] w rfl rfl (fun w => by have := le16_any a b w ha hb; rw [h1] at this; exact this)
  rcases h2 : leB b c with _ | _
  · exact law6_no2 [.int .u8 (a 0), .int .u8 (a 1), .int .u8 (a 2), .int .u8 (a 3), .int .u8 (a 4), .int .u8 (a 5), .int .u8 (a 6), .int .u8 (a 7), .int .u8 (a 8), .int .u8 (a 9), .int .u8 (a 10), .int .u8 (a 11), .int .u8 (a 12), .int .u8 (a 13), .int .u8 (a 14), .int .u8 (a 15)] [.int .u8 (b 0), .int .u8 (b 1), .int .u8 (b 2), .int .u8 (b 3), .int .u8 (b 4), .int .u8 (b 5), .int .u8 (b 6), .int .u8 (b 7), .int .u8 (b 8), .int .u8 (b 9), .int .u8 (b 10), .int .u8 (b 11), .int .u8 (b 12), .int .u8 (b 13), .int .u8 (b 14), .int .u8 (b 15)] [.int .u8 (c 0), .int .u8 (c 1), .int .u8 (c 2), .int .u8 (c 3), .int .u8 (c 4), .int .u8 (c 5), .int .u8 (c 6), .int .u8 (c 7), .int .u8 (c 8), .int .u8 (c 9), .int .u8 (c 10), .int .u8 (c 11), .int .u8 (c 12), .int .u8 (c 13), .int .u8 (c 14), .int .u8 (c 15)] w rfl rfl rfl (fun w => by have := le16_any a b w ha hb; rw [h1] at this; exact this) (fun w => by have := le16_any b c w hb hc; rw [h2] at this; exact this)
  have hle : seg a 0 16 ≤ seg b 0 16 := by simpa [leB] using h1
  have hby := fun i (hi : i < 16) => dg_byte a b ha hb i (by omega)
  have d0 := seg8_word (dg a b) 0 (by omega) hby
  have d8 := seg8_word (dg a b) 8 (by omega) hby
  have hd := seg_dg a b
  have s1 := seg_split (dg a b)
  have s2 := seg_split a
  have s3 := seg_split b
  have hbw := bw_01 a b 16
  have wa := hiW_word a ha; have wa' := loW_word a ha
  have wb := hiW_word b hb; have wb' := loW_word b hb
  have wc := hiW_word c hc; have wc' := loW_word c hc
  have e := width_words (hiW a) (loW a) (hiW b) (loW b) (seg (dg a b) 0 8) (seg (dg a b) 8 8) wa wa' wb wb' d0 d8 (by
    rw [hiW_seg a, loW_seg a, hiW_seg b, loW_seg b]; omega)
  obtain ⟨f1, f2, f3, f4⟩ := width_add (hiW a) (loW a) (hiW b) (loW b) (hiW c) (loW c) wa wa' wb wb' wc wc'
  exact law6_yes [.int .u8 (a 0), .int .u8 (a 1), .int .u8 (a 2), .int .u8 (a 3), .int .u8 (a 4), .int .u8 (a 5), .int .u8 (a 6), .int .u8 (a 7), .int .u8 (a 8), .int .u8 (a 9), .int .u8 (a 10), .int .u8 (a 11), .int .u8 (a 12), .int .u8 (a 13), .int .u8 (a 14), .int .u8 (a 15)] [.int .u8 (b 0), .int .u8 (b 1), .int .u8 (b 2), .int .u8 (b 3), .int .u8 (b 4), .int .u8 (b 5), .int .u8 (b 6), .int .u8 (b 7), .int .u8 (b 8), .int .u8 (b 9), .int .u8 (b 10), .int .u8 (b 11), .int .u8 (b 12), .int .u8 (b 13), .int .u8 (b 14), .int .u8 (b 15)] [.int .u8 (c 0), .int .u8 (c 1), .int .u8 (c 2), .int .u8 (c 3), .int .u8 (c 4), .int .u8 (c 5), .int .u8 (c 6), .int .u8 (c 7), .int .u8 (c 8), .int .u8 (c 9), .int .u8 (c 10), .int .u8 (c 11), .int .u8 (c 12), .int .u8 (c 13), .int .u8 (c 14), .int .u8 (c 15)] p4 p6 w z rfl rfl rfl _ _ _ _ _ _
    (fun w => by have := le16_any a b w ha hb; rw [h1] at this; exact this) (fun w => by have := le16_any b c w hb hc; rw [h2] at this; exact this)
    (fun w z => width6_any a c p4 p6 w z ha hc) (fun w z => width6_any a b p4 p6 w z ha hb) (fun w z => width6_any b c p4 p6 w z hb hc)
    (fun w => by rw [e.1, e.2]; exact sub16_opaque [.int .u8 (b 0), .int .u8 (b 1), .int .u8 (b 2), .int .u8 (b 3), .int .u8 (b 4), .int .u8 (b 5), .int .u8 (b 6), .int .u8 (b 7), .int .u8 (b 8), .int .u8 (b 9), .int .u8 (b 10), .int .u8 (b 11), .int .u8 (b 12), .int .u8 (b 13), .int .u8 (b 14), .int .u8 (b 15)] [.int .u8 (a 0), .int .u8 (a 1), .int .u8 (a 2), .int .u8 (a 3), .int .u8 (a 4), .int .u8 (a 5), .int .u8 (a 6), .int .u8 (a 7), .int .u8 (a 8), .int .u8 (a 9), .int .u8 (a 10), .int .u8 (a 11), .int .u8 (a 12), .int .u8 (a 13), .int .u8 (a 14), .int .u8 (a 15)] a b w ha hb (row16_list b) (row16_list a)) f1 f2 f3 f4

theorem range16 (f : Nat → Int) : ((List.range 16).map fun i => Value.int .u8 (f i)).toArray = #[.int .u8 (f 0), .int .u8 (f 1), .int .u8 (f 2), .int .u8 (f 3), .int .u8 (f 4), .int .u8 (f 5), .int .u8 (f 6), .int .u8 (f 7), .int .u8 (f 8), .int .u8 (f 9), .int .u8 (f 10), .int .u8 (f 11), .int .u8 (f 12), .int .u8 (f 13), .int .u8 (f 14), .int .u8 (f 15)] := rfl
theorem cells37 : Tryd.prog.cellsOf 37 = 16 := by kernel_rfl

set_option maxRecDepth 100000 in
theorem lifted6 (os : Os) (started : os.Started) (H : Type) (enc : TypeId × Value → H) :
    ReturnsInHanded {} Tryd.checked os 6 .any (fun w args => (Rows.fnWidthOfAdditiveExact6Spec.pre enc Tryd.prog Tryd.f6 [] false w args ∧ laidMetH Tryd.prog laid3 w) ∧ sizedMet enc Tryd.prog Tryd.f6 (OpenSpec.ofChange Rows.fnWidthOfAdditiveExact6Spec) false w args)
      (Rows.fnWidthOfAdditiveExact6Spec.post enc Tryd.prog Tryd.f6 false true false false) := by
  refine returnsInHanded_of_change_and (C := Tryd.checked) (X := fun w _ => laidMetH Tryd.prog laid3 w) (fun _ _ _ hh h => h.of_heap hh) Tryd.own started (by kernel_rfl) Tryd.func6
    (ChangeSpec.witness_shaped (enc := enc) (C := Tryd.checked) (os := os) (X := fun w _ => laidMetH Tryd.prog laid3 w) false (World.laidAll Tryd.prog os laid3) #[.agg #[.int .u8 0, .int .u8 0, .int .u8 0, .int .u8 0, .int .u8 0, .int .u8 0, .int .u8 0, .int .u8 0, .int .u8 0, .int .u8 0, .int .u8 0, .int .u8 0, .int .u8 0, .int .u8 0, .int .u8 0, .int .u8 0], .agg #[.int .u8 0, .int .u8 0, .int .u8 0, .int .u8 0, .int .u8 0, .int .u8 0, .int .u8 0, .int .u8 0, .int .u8 0, .int .u8 0, .int .u8 0, .int .u8 0, .int .u8 0, .int .u8 0, .int .u8 0, .int .u8 0], .agg #[.int .u8 0, .int .u8 0, .int .u8 0, .int .u8 0, .int .u8 0, .int .u8 0, .int .u8 0, .int .u8 0, .int .u8 0, .int .u8 0, .int .u8 0, .int .u8 0, .int .u8 0, .int .u8 0, .int .u8 0, .int .u8 0]] 8 (World.laidAll_os _ _ _)
      (World.shaped_of_ZipB (by kernel_rfl) (by kernel_rfl)) (by kernel_rfl) (by kernel_rfl) (by kernel_rfl)
      (by rw [MakeChecks.laidMetH_plain _ _ _ (by kernel_rfl)]; exact laidMet_laidAll _ (by kernel_rfl) (by kernel_rfl))) ?_
  intro W base args ds gs before hval0 hW _ _ hL _
  have hval : ∀ (j : Nat) t v, Tryd.f6.params[j]? = some t → args[j]? = some v → Value.okWide Tryd.prog W .any base t v := hval0
  have hW' := hW
  obtain ⟨p, q, hA0, hV, rfl, _, _⟩ := hW
  have hA : DataW.TrodAll enc Tryd.prog W 0 (fun _ => true) true Tryd.f6.params.toList args.toList ds p := hA0
  rw [Tryd.params6] at hA hval
  obtain ⟨v0, v1, v2, d0, d1, d2, p0, p1, p2, rfl, rfl, rfl, h0, h1, h2⟩ := trodAll_three hA
  obtain ⟨rfl, rfl⟩ := trodVars_none hV
  obtain ⟨a, ea, ha⟩ := open_bytes Tryd.underlying37 cells37 (hval 0 37 v0 rfl rfl) h0
  obtain ⟨b, eb, hb⟩ := open_bytes Tryd.underlying37 cells37 (hval 1 37 v1 rfl rfl) h1
  obtain ⟨c, ec, hc⟩ := open_bytes Tryd.underlying37 cells37 (hval 2 37 v2 rfl rfl) h2
  obtain ⟨p4, p6, z⟩ := of_laid hL
  rw [range16] at ea eb ec
  have hlt : ∀ x ∈ p0 ++ p1 ++ p2, x.block < W.heap.size := fun x hx => hW'.lt x (by simpa using hx)
  have k0 := fun (W' : World) (hbl : Below W.heap.size W W') => Below.trod Tryd.laidOut (by kernel_rfl) (of_decide_eq_true (by kernel_rfl)) h0 hbl (fun x hx => hlt x (by simp [hx]))
  have k1 := fun (W' : World) (hbl : Below W.heap.size W W') => Below.trod Tryd.laidOut (by kernel_rfl) (of_decide_eq_true (by kernel_rfl)) h1 hbl (fun x hx => hlt x (by simp [hx]))
  have k2 := fun (W' : World) (hbl : Below W.heap.size W W') => Below.trod Tryd.laidOut (by kernel_rfl) (of_decide_eq_true (by kernel_rfl)) h2 hbl (fun x hx => hlt x (by simp [hx]))
  have hw := law6_any a b c p4 p6 W z ha hb hc
  rw [← ea, ← eb, ← ec] at hw
  refine hw.mono fun e W' ⟨he, hbl⟩ => ?_
  subst he
  exact ⟨_, rfl, _, _, _, [], _, [], hW', trodAll_mk1 (shut_bool Tryd.underlying4 _), trodAll_mk3 (k0 W' hbl) (k1 W' hbl) (k2 W' hbl), rfl, hbl.frame _, fun h => by cases h⟩

theorem fnWidthOfAdditiveExact6_holds : Rows.FnWidthOfAdditiveExact6Said :=
  OpenClaim.holds_of_wide 6 Tryd.f6 rfl rfl rfl rfl rfl rfl rfl ⟨rfl, rfl, rfl, rfl, rfl⟩ rfl rfl rfl rfl rfl (by kernel_rfl) Tryd.func6 (by kernel_rfl)
    (of_decide_eq_true (by kernel_rfl)) (by unfold Func.isWrapper; first | (rw [if_pos (by decide +kernel)]; kernel_rfl) | (rw [if_neg (by decide +kernel)]; exact ⟨rfl, rfl⟩))
    (fun os started H enc _ => lifted6 os started H enc)

theorem fnWidthOfAdditiveExact6_card : Rows.FnWidthOfAdditiveExact6CardSaid :=
  Claim7.holds_tied_plain_at .later [] [.called, .called, .zero] true (true, "3a663f105561a7c8aefb9b88a77c86522873fc99c3a033d8c10ef070ae698ea4") false fnWidthOfAdditiveExact6_holds (fun _ h => by cases h) (by kernel_rfl) (fun _ h => by cases h) fnWidthOfAdditiveExact6_row_tie rfl ⟨rfl, rfl⟩ (by kernel_rfl) rfl
    (fun f fn hf hfn => by
      obtain rfl : f = 6 := Option.some.inj ((show Tryd.prog.funcNamed Tryd.f6.name = some 6 by kernel_rfl).symm.trans hf) |>.symm
      obtain rfl : fn = Tryd.f6 := (Option.some.inj (Tryd.func6.symm.trans hfn)).symm
      exact ⟨by kernel_rfl, fun j t ht => by
        rw [Tryd.params6] at ht
        have hm : t ∈ [37, 37, 37] := by simpa using Array.mem_of_getElem? ht
        have hall : ([37, 37, 37].all fun u => !Tryd.prog.wantsStandIn u) = true := by kernel_rfl
        exact (show Tryd.prog.wantsStandIn t = false by simpa using List.all_eq_true.1 hall t hm)⟩)
    (by kernel_rfl)
end Go.Proofs.Qxb6608729aDoor
