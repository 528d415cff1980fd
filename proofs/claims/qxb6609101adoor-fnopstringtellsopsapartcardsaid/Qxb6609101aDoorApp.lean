/-
  Op.AppendTo on nil; Op.String.
-/
import Derived.Test.Qxb6609101aDoorKit
namespace Go.Proofs.Qxb6609101aDoor
set_option linter.unusedSimpArgs false
set_option linter.unusedVariables false
open Go.RowKit

theorem Tryd.info5 : (Tryd.prog.info? 5).map (fun i => (i.zero, i.size, i.bytes)) = some (some (.int .u8 0), 1, 1) := by kernel_rfl

/-- A string's bytes appended to a row of the call's own: one step of a region that draws. -/
theorem step_own_str {ops : Array Oper} {o : Oper} {a : Act} {w : World} {K : Act → World → Prop} {Q : Exit → Act → World → Prop} {E : Prop} (u : TypeId) (hu : Tryd.prog.underlying u = some .string)
    (hg : o.guard = none) (s x : Operand) (hop : o.op = Op.call { callee := Callee.builtin Builtin.append, args := #[s, x], argTypes := #[31, u] })
    (B : Nat) (v : Value) (n : Nat) (xs : List Value) (hown : w.ownsRow B 5 1 v n xs) (hs : a.eval s = v) (t : ByteArray) (hx : a.eval x = .string t) (hlen : n + t.size ≤ 4194304) (hB : B ≤ w.heap.size)
    (hK : ∀ v' w', w'.ownsRow B 5 1 v' (n + t.size) (xs ++ Lib.strCells t) → w.grownBy w' v.ownBlock → K (a.put o.dst v') w') :
    if Region.wanted o (yielded ops a.tmps) = true then Oper.wp Tryd.prog o a w K Q else E := by
  obtain ⟨i0, hi, hz0, hz1, hz2⟩ := info_parts Tryd.info5
  have hw : Region.wanted o (yielded ops a.tmps) = true := by simp [Region.wanted, hg]
  rw [if_pos hw]
  obtain ⟨v', w', hrun, r1, r2, _⟩ := Lib.run_append_own_string (P := Tryd.prog) w B 31 u o.type 5 i0 Tryd.underlying31 hu hi hz0 hz1 hz2 v n xs hown t (by unfold maxLen; omega) (by omega) hB
  unfold Oper.wp
  simp [execOp, hop, resolve, invoke, builtin, hs, hx, hrun, Result.andThen]
  exact hK v' w' r1 r2

/-- A slice of one byte. -/
def Lit (g : Nat) (b : Int) (w : World) : Prop := w.heap[g]? = some (.cells #[.int .u8 b] 5 (0, 0))

theorem step_own_lit {ops : Array Oper} {o : Oper} {a : Act} {w : World} {K : Act → World → Prop} {Q : Exit → Act → World → Prop} {E : Prop}
    (hg : o.guard = none) (s x : Operand) (hop : o.op = Op.call { callee := Callee.builtin Builtin.append, args := #[s, x], argTypes := #[31, 31] })
    (B : Nat) (v : Value) (n : Nat) (xs : List Value) (hown : w.ownsRow B 5 1 v n xs) (hs : a.eval s = v) (g : Nat) (b : Int) (hl : Lit g b w) (hx : a.eval x = .slice (some ⟨g, 0, none⟩) 1 1) (hlen : n + 1 ≤ 4194304) (hB : B ≤ w.heap.size)
    (hK : ∀ v' w', w'.ownsRow B 5 1 v' (n + 1) (xs ++ [.int .u8 b]) → w.grownBy w' v.ownBlock → K (a.put o.dst v') w') :
    if Region.wanted o (yielded ops a.tmps) = true then Oper.wp Tryd.prog o a w K Q else E := by
  obtain ⟨i0, hi, hz0, hz1, hz2⟩ := info_parts Tryd.info5
  have hw : Region.wanted o (yielded ops a.tmps) = true := by simp [Region.wanted, hg]
  rw [if_pos hw]
  obtain ⟨v', w', hrun, r1, r2, _⟩ := run_append_own (P := Tryd.prog) w B 31 o.type 5 i0 (.int .u8 0) 1 1 Tryd.underlying31 hi hz0 hz1 hz2 rfl (by decide) v n xs hown ⟨g, 0, none⟩ 1 1 [.int .u8 b] rfl
    (fun j u hu => by
      rcases j with _ | j
      · obtain rfl : Value.int .u8 b = u := by simpa using hu
        rw [Addr.add_mid, cell_of_row _ _ _ _ _ _ hl]; rfl
      · simp at hu) (fun u hu => by obtain rfl : u = Value.int .u8 b := by simpa using hu
                                    rfl) (by unfold maxLen; omega) (by omega) hB
  unfold Oper.wp
  simp [execOp, hop, resolve, invoke, builtin, hs, hx, hrun, Result.andThen]
  exact hK v' w' r1 r2

/-- strconv.AppendInt at base 10, from the world w0 on. -/
def AI (w0 : World) : Prop := ∀ (B n : Nat) (i : Int) (sv : Value) (xs : List Value) (W : World), -9223372036854775808 ≤ i → i ≤ 9223372036854775807 → W.ownsRow B 5 1 sv n xs → B ≤ W.heap.size → w0.heap.size ≤ B → Below w0.heap.size w0 W → n + 21 ≤ 140737488355328 →
    Calls Tryd.prog 16 #[sv, .int .i64 i, .int .i64 10] W fun e w' => ∃ v', e = .returned v' ∧ w'.ownsRow B 5 1 v' (n + (Lib.itoa i).length) (xs ++ Lib.byteCells (Lib.itoa i)) ∧ Below B W w'

/-- The operation as a value. -/
def opV (k : ByteArray) (t : Int) (it : ByteArray) (l c ver : Int) : Value := .agg #[.string k, .int .i64 t, .string it, .int .i64 l, .int .i64 c, .int .i64 ver]

/-- What the text is made of. -/
def textCells (k : ByteArray) (t : Int) (it : ByteArray) : List Value :=
  Lib.strCells k ++ Lib.byteCells (Lib.itoa t) ++ (if hasItem k then [.int .u8 40] ++ Lib.strCells it ++ [.int .u8 41] else [])

theorem itoa_len (t : Int) (h0 : -9223372036854775808 ≤ t) (h1 : t ≤ 9223372036854775807) : (Lib.itoa t).length ≤ 21 := by
  have hd : ∀ u : Nat, u < 18446744073709551616 → Lib.nDigits u ≤ 20 := fun u hu => by
    by_cases h : 1 ≤ u
    · have := Lib.numDigits_eq u h hu
      split at this <;> omega
    · rw [Lib.nDigits_small (by omega)]; omega
  unfold Lib.itoa
  split
  · rw [List.length_cons, Lib.decDigits_length]
    have := hd t.natAbs (by omega)
    omega
  · rw [Lib.decDigits_length]
    have := hd t.toNat (by omega)
    omega

theorem grown_below {B : Nat} {w w' : World} {v : Value} {n : Nat} {xs : List Value} (h : w.grownBy w' v.ownBlock) (hB : B ≤ w.heap.size) (hown : w.ownsRow B 5 1 v n xs) : Below B w w' :=
  (Below.refl B _).grown h hB (fun k hk => (hown.lt k hk).1)

/-- The box's cells, and what lies below. -/
def Sx (g : Nat) (k : ByteArray) (t : Int) (it : ByteArray) (wb W : World) : Prop :=
  W.cell? ⟨g, 0, none⟩ = some (.string k) ∧ W.cell? ⟨g, 1, none⟩ = some (.int .i64 t) ∧ W.cell? ⟨g, 2, none⟩ = some (.string it) ∧ Below (g + 1) wb W ∧ g + 1 ≤ W.heap.size
theorem Sx.on {g : Nat} {k : ByteArray} {t : Int} {it : ByteArray} {wb W W' : World} (h : Sx g k t it wb W) (hb : Below (g + 1) W W') : Sx g k t it wb W' :=
  ⟨(hb.cell (Nat.lt_succ_self g)).trans h.1, (hb.cell (Nat.lt_succ_self g)).trans h.2.1, (hb.cell (Nat.lt_succ_self g)).trans h.2.2.1, h.2.2.2.1.trans hb, Nat.le_trans h.2.2.2.2 hb.size⟩
theorem Sx.alloc {g : Nat} {k : ByteArray} {t : Int} {it : ByteArray} {wb W : World} (h : Sx g k t it wb W) (o : Obj) : Sx g k t it wb (W.alloc o) :=
  h.on ((Below.refl _ _).alloc h.2.2.2.2 o)

theorem Lit.lt {g : Nat} {b : Int} {W : World} (h : Lit g b W) : g < W.heap.size := (Array.getElem?_eq_some_iff.1 h).1
theorem Lit.app {g : Nat} {b : Int} {W W' : World} {v : Value} (hgr : W.grownBy W' v.ownBlock) (h : Lit g b W) (hne : v.ownBlock ≠ some g) : Lit g b W' :=
  (hgr.block g h.lt (fun e => hne e.symm)).trans h
theorem Lit.ne {g : Nat} {b : Int} {W : World} {B n : Nat} {v : Value} {xs : List Value} (h : Lit g b W) (hown : W.ownsRow B 5 1 v n xs) (hn : 2 ≤ n) : v.ownBlock ≠ some g := by
  rcases hown.2 with ⟨rfl, rfl⟩ | ⟨g', cap, cur, rfl, _, hg, hc, _, hs, _⟩
  · omega
  · intro e
    obtain rfl : g' = g := by simpa [Value.ownBlock] using e
    have h' := h.symm.trans hg
    injection h' with h'
    injection h' with h'
    subst h'
    simp at hs
    omega
theorem own_ne {W : World} {B n : Nat} {v : Value} {xs : List Value} (hown : W.ownsRow B 5 1 v n xs) {g : Nat} (hg : W.heap.size ≤ g) : v.ownBlock ≠ some g := fun e => by
  have := (hown.lt g e).2; omega
theorem lit_new (W : World) (b : Int) : Lit W.heap.size b (W.alloc (.cells #[.int .u8 b] 5)) := heap_alloc_new W _
theorem lit_new1 (W : World) (o : Obj) (b : Int) : Lit (W.heap.size + 1) b ((W.alloc o).alloc (.cells #[.int .u8 b] 5)) := by
  have := lit_new (W.alloc o) b
  rwa [show (W.alloc o).heap.size = W.heap.size + 1 by simp] at this
theorem lit_old (W : World) (o : Obj) (b : Int) : Lit W.heap.size b ((W.alloc (.cells #[.int .u8 b] 5)).alloc o) :=
  (heap_alloc_old (W.alloc (.cells #[.int .u8 b] 5)) o (lit_new W b).lt).trans (lit_new W b)

theorem itoa_pos (t : Int) : 1 ≤ (Lib.itoa t).length := by
  unfold Lib.itoa
  split
  · rw [List.length_cons]; omega
  · rw [Lib.decDigits_length]; exact Lib.nDigits_pos _

set_option maxHeartbeats 4000000 in
theorem appendTo_13 (k it : ByteArray) (t l c ver : Int) (w0 w : World) (hAI : AI w0) (hb : Below w0.heap.size w0 w) (h0 : -9223372036854775808 ≤ t) (h1 : t ≤ 9223372036854775807) (hk : k.size ≤ 262144) (hi : it.size ≤ 262144) :
    Calls Tryd.prog 13 #[opV k t it l c ver, .slice none 0 0] w fun e w' => ∃ v n, e = .returned v ∧ w'.ownsRow (w.heap.size + 1) 5 1 v n (textCells k t it) ∧ Below w.heap.size w w' := by
  unfold opV
  have hs0 := hb.size
  have bAI : ∀ W, Below (w.heap.size + 1) (w.alloc (.cells #[.string k, .int .i64 t, .string it, .int .i64 l, .int .i64 c, .int .i64 ver] 27)) W → Below w0.heap.size w0 W := fun W h =>
    (hb.alloc hs0 _).trans (h.mono (by omega))
  have HbAI := (show Hid _ from bAI)
  go_enter Tryd.func13, Tryd.ntmps13
  go_wp2
  go_region_held_law (fun W => W.cell? ⟨w.heap.size, 0, none⟩ = some (.string k) ∧ W.cell? ⟨w.heap.size, 1, none⟩ = some (.int .i64 t) ∧ W.cell? ⟨w.heap.size, 2, none⟩ = some (.string it) ∧ Below (w.heap.size + 1) (w.alloc (.cells #[.string k, .int .i64 t, .string it, .int .i64 l, .int .i64 c, .int .i64 ver] 27)) W ∧ w.heap.size + 1 ≤ W.heap.size)
    (first
      | (refine ⟨?_, ?_, ?_, (Below.refl _ _).drew, ?_⟩ <;> simp [go_sem] <;> done)
      | exact Sx.on (show Sx _ _ _ _ _ _ by assumption) hbl2
      | exact Sx.on (show Sx _ _ _ _ _ _ by assumption) hbl1)
    (first
      | (refine step_own_str 23 Tryd.underlying23 rfl (.tmp 5) (.tmp 7) rfl (w.heap.size + 1) (.slice none 0 0) 0 [] (World.ownsRow_nil _ _ _ _) rfl k rfl (by omega) (show _ ≤ _ from (show Sx w.heap.size k t it _ _ by assumption).2.2.2.2) ?_
         intro v1 W1 hown1 hgr1
         have hbl1 := grown_below hgr1 (show _ ≤ _ from (show Sx w.heap.size k t it _ _ by assumption).2.2.2.2) (World.ownsRow_nil _ _ _ _))
      | (go_at_call 16
         refine (hAI (w.heap.size + 1) _ t v1 _ _ h0 h1 hown1 (show _ ≤ _ from (show Sx w.heap.size k t it _ _ by assumption).2.2.2.2) (by omega) (bAI _ (show Sx w.heap.size k t it _ _ by assumption).2.2.2.1) (by omega)).mono ?_
         rintro e W2 ⟨v2, rfl, hown2, hbl2⟩))
  have hX2 : Sx w.heap.size k t it (w.alloc (.cells #[.string k, .int .i64 t, .string it, .int .i64 l, .int .i64 c, .int .i64 ver] 27)) W2 := by assumption
  have hn2 : 1 ≤ 0 + k.size + (Lib.itoa t).length := by have := itoa_pos t; omega
  have hn2' : 0 + k.size + (Lib.itoa t).length ≤ 262165 := by have := itoa_len t h0 h1; omega
  generalize hN : 0 + k.size + (Lib.itoa t).length = n2 at hown2 hn2 hn2'
  generalize hXS : [] ++ Lib.strCells k ++ Lib.byteCells (Lib.itoa t) = xs2 at hown2
  have hXS' : xs2 = Lib.strCells k ++ Lib.byteCells (Lib.itoa t) := by rw [← hXS]; rfl
  have h17 := hasItem_17 k W2
  have hownD : W2.drew.ownsRow (w.heap.size + 1) 5 1 v2 n2 xs2 := hown2
  have hne0 : v2.ownBlock ≠ some W2.heap.size := own_ne hown2 (Nat.le_refl _)
  have hne1 : v2.ownBlock ≠ some (W2.heap.size + 1) := own_ne hown2 (by omega)
  have hfin : ∀ W, Below (w.heap.size + 1) (w.alloc (.cells #[.string k, .int .i64 t, .string it, .int .i64 l, .int .i64 c, .int .i64 ver] 27)) W → Below w.heap.size w W := fun W h =>
    ((Below.refl _ w).alloc (Nat.le_refl _) _).trans (h.mono (by omega))
  have HX2 := (show Hid _ from hX2)
  obtain ⟨q0, q1, q2, q3, q4⟩ := hX2
  clear hgr1 hbl1 hown1 hbl2 hN hXS
  cases hh : hasItem k
  · rw [hh] at h17
    go_wp2_with (go_at_call 17; refine h17.mono ?_; rintro e w' ⟨rfl, hw⟩; obtain rfl := hw.symm)
    go_ret
    refine ⟨v2, n2, rfl, ?_, hfin _ q3⟩
    unfold textCells
    rw [hh, ← hXS']
    simpa using hown2
  · rw [hh] at h17
    go_wp2_with (go_at_call 17; refine h17.mono ?_; rintro e w' ⟨rfl, hw⟩; obtain rfl := hw.symm)
    go_region_held_law (fun W => W.cell? ⟨w.heap.size, 0, none⟩ = some (.string k) ∧ W.cell? ⟨w.heap.size, 1, none⟩ = some (.int .i64 t) ∧ W.cell? ⟨w.heap.size, 2, none⟩ = some (.string it) ∧ Below (w.heap.size + 1) (w.alloc (.cells #[.string k, .int .i64 t, .string it, .int .i64 l, .int .i64 c, .int .i64 ver] 27)) W ∧ w.heap.size + 1 ≤ W.heap.size)
      (first
        | exact Sx.on (show Sx _ _ _ _ _ _ by assumption) hbl5
        | exact Sx.on (show Sx _ _ _ _ _ _ by assumption) hbl4
        | exact Sx.on (show Sx _ _ _ _ _ _ by assumption) hbl3
        | exact Sx.alloc (show Sx _ _ _ _ _ _ by assumption) _
        | exact Sx.on (show Sx _ _ _ _ _ _ from HX2.out) (Below.refl _ _).drew)
      (first
        | (refine step_own_lit rfl (.tmp 15) (.tmp 16) rfl (w.heap.size + 1) v2 n2 xs2 (by first | exact hownD | exact hownD.alloc _ | exact (hownD.alloc _).alloc _) rfl _ 40 (by first | exact lit_new W2.drew 40 | exact lit_old W2.drew _ 40 | exact lit_new1 W2.drew _ 40) rfl (by omega) (show _ ≤ _ from (show Sx w.heap.size k t it _ _ by assumption).2.2.2.2) ?_
           intro v3 W3 hown3 hgr3
           have hbl3 := grown_below hgr3 (show _ ≤ _ from (show Sx w.heap.size k t it _ _ by assumption).2.2.2.2) (by first | exact hownD | exact hownD.alloc _ | exact (hownD.alloc _).alloc _)
           first
             | (have hL3 := Lit.app hgr3 (lit_new1 W2.drew _ 41) hne1)
             | (have hL3 := Lit.app hgr3 (lit_old W2.drew _ 41) hne0)
             | skip)
        | (refine step_own_str 9 Tryd.underlying9 rfl (.tmp 17) (.tmp 19) rfl (w.heap.size + 1) v3 (n2 + 1) _ (by first | exact hown3 | exact hown3.alloc _) rfl it rfl (by omega) (show _ ≤ _ from (show Sx w.heap.size k t it _ _ by assumption).2.2.2.2) ?_
           intro v4 W4 hown4 hgr4
           have hbl4 := grown_below hgr4 (show _ ≤ _ from (show Sx w.heap.size k t it _ _ by assumption).2.2.2.2) (by first | exact hown3 | exact hown3.alloc _)
           first
             | (have hL4 := Lit.app hgr4 hL3 (hL3.ne hown3 (by omega)))
             | (have hL4 := Lit.app hgr4 (lit_new W3 41) (own_ne hown3 (Nat.le_refl _)))
             | skip)
        | (refine step_own_lit rfl (.tmp 20) (.tmp 21) rfl (w.heap.size + 1) v4 (n2 + 1 + it.size) _ (by first | exact hown4 | exact hown4.alloc _) rfl _ 41 (by first | exact hL4 | exact lit_new W4 41) rfl (by omega) (show _ ≤ _ from (show Sx w.heap.size k t it _ _ by assumption).2.2.2.2) ?_
           intro v5 W5 hown5 hgr5
           have hbl5 := grown_below hgr5 (show _ ≤ _ from (show Sx w.heap.size k t it _ _ by assumption).2.2.2.2) (by first | exact hown4 | exact hown4.alloc _)))
    all_goals
      have hX5 : Sx w.heap.size k t it (w.alloc (.cells #[.string k, .int .i64 t, .string it, .int .i64 l, .int .i64 c, .int .i64 ver] 27)) W5 := by assumption
      go_wp2
      go_ret
      refine ⟨v5, n2 + 1 + it.size + 1, rfl, ?_, hfin _ hX5.2.2.2.1⟩
      unfold textCells
      rw [hh, ← hXS']
      simpa [List.append_assoc] using hown5
end Go.Proofs.Qxb6609101aDoor
