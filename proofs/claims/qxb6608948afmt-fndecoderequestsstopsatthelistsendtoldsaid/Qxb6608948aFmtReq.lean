/-
  decodeRequest.
-/
import Derived.Test.Qxb6608948aFmtByt
import Derived.Deep.MidRow
import Derived.Laws.CopyRow
import Derived.ArgAppend
namespace Go.Proofs.Qxb6608948aFmt
set_option linter.unusedSimpArgs false
set_option linter.unusedVariables false
open Go.RowKit Go.Extern.Stop Go.Stop Go.Extern

/-- The state behind a request. -/
def rq (N : Nat) (f : Nat → UInt8) (s : Option Nat) : Option Nat := (ct N f 32 (bt N f (tk N 8 (tk N 8 s)))).map fun p => p + 32 * be32 f (p - 4)
/-- n bytes from p on, as cells. -/
def brow (f : Nat → UInt8) (p n : Nat) : List Value := (List.range n).map fun m => .int .u8 ((f (p + m)).toNat : Int)
/-- What is known of a request that was read at p. -/
structure ReqAt (B : Nat) (f : Nat → UInt8) (p p' base : Nat) (c q : Nat) (a : Option Addr) (l : Nat) (au : Value) (W : World) : Prop where
  client : c = be64 f p
  reqid : q = be64 f (p + 8)
  len : l = be32 f (p + 16)
  tx : l = 0 ∨ a = some ⟨B, p + 20, none⟩
  auth : W.ownsRow base 44 32 au (be32 f (p + 20 + l)) (brow f (p + 24 + l) (32 * be32 f (p + 20 + l)))
  stop : p' = p + 24 + l + 32 * be32 f (p + 20 + l)
def ReqPost (D B N : Nat) (f : Nat → UInt8) (s : Option Nat) (W : World) (e : Ending) (w' : World) : Prop :=
  ∃ (c q : Nat) (a : Option Addr) (l c' : Nat) (au : Value), e = .returned (.agg #[.int .u64 (c : Int), .int .u64 (q : Int), .slice a l c', au]) ∧ (∃ aa k ac, au = .slice aa k ac) ∧ St D B N (rq N f s) w' ∧ W.grownBy w' (some D) ∧
    ∀ p p', s = some p → rq N f s = some p' → ReqAt B f p p' W.heap.size c q a l au w'

theorem St.of_block {D B N : Nat} {s : Option Nat} {W W' : World} (h : St D B N s W) (e : W'.heap[D]? = W.heap[D]?) : St D B N s W' := by
  obtain ⟨⟨f0, f1⟩, h⟩ := h
  have c0 := World.cell?_of_block (w := W) (a := ⟨D, 0, none⟩) e
  have c1 := World.cell?_of_block (w := W) (a := ⟨D, 1, none⟩) e
  refine ⟨⟨(World.frozen?_of_block (w := W) (a := ⟨D, 0, none⟩) e).trans f0, (World.frozen?_of_block (w := W) (a := ⟨D, 1, none⟩) e).trans f1⟩, ?_⟩
  cases s with
  | none =>
    obtain ⟨⟨a, l, c, h0⟩, t, v, h1⟩ := h
    exact ⟨⟨a, l, c, c0.trans h0⟩, t, v, c1.trans h1⟩
  | some p =>
    obtain ⟨hp, ⟨q, hq, h0⟩, h1⟩ := h
    exact ⟨hp, ⟨q, hq, c0.trans h0⟩, c1.trans h1⟩

/-- The walk's own memory in decodeRequest: the result's slot in R, the request in r, i MACs. -/
structure LInv (D B N : Nat) (f : Nat → UInt8) (s : Option Nat) (R r p0 : Nat) (c q : Nat) (tx : Value) (W : World) (i : Nat) (wr : World) : Prop where
  slot : wr.heap[R]? = some (.cells #[.int .u64 0, .int .u64 0, .slice none 0 0, .slice none 0 0] 38 (0, 0))
  req : ∃ au, wr.heap[r]? = some (.cells #[.int .u64 (c : Int), .int .u64 (q : Int), tx, au] 38 (0, 0)) ∧ wr.ownsRow (r + 1) 44 32 au i (brow f p0 (32 * i))
  gr : W.grownBy wr (some D)
  st : St D B N (s.map fun p => p + 32 * i) wr

theorem ct_some {N : Nat} {f : Nat → UInt8} {es : Nat} {s : Option Nat} {p' : Nat} (h : ct N f es s = some p') : ∃ p, s = some p ∧ p' = p + 4 ∧ p + 4 ≤ N ∧ be32 f p * es ≤ N - (p + 4) := by
  unfold ct at h
  obtain ⟨p, hp, h2⟩ := Option.bind_eq_some_iff.1 h
  by_cases hc : p + 4 ≤ N ∧ be32 f p * es ≤ N - (p + 4)
  · rw [if_pos hc] at h2
    injection h2 with h2
    exact ⟨p, hp, h2.symm, hc.1, hc.2⟩
  · rw [if_neg hc] at h2; cases h2
theorem brow_len (f : Nat → UInt8) (p n : Nat) : (brow f p n).length = n := by simp [brow]
theorem brow_at {f : Nat → UInt8} {p n j : Nat} {v : Value} (h : (brow f p n)[j]? = some v) : j < n ∧ v = .int .u8 ((f (p + j)).toNat : Int) := by
  have hj : j < n := by
    rcases Nat.lt_or_ge j n with h' | h'
    · exact h'
    · rw [List.getElem?_eq_none (by rw [brow_len]; exact h')] at h; cases h
  refine ⟨hj, ?_⟩
  simp [brow, List.getElem?_map, List.getElem?_range hj] at h
  exact h.symm
theorem brow_add (f : Nat → UInt8) (p n m : Nat) : brow f p (n + m) = brow f p n ++ brow f (p + n) m := by
  unfold brow
  rw [List.range_add, List.map_append, List.map_map]
  congr 1
  apply List.map_congr_left
  intro x _
  simp [Nat.add_assoc]
theorem brow_one (f : Nat → UInt8) (p n : Nat) : ∀ v ∈ brow f p n, v.oneCell' = true := fun v hv => by
  unfold brow at hv
  obtain ⟨m, _, rfl⟩ := List.mem_map.1 hv
  rfl
theorem grown_new {D R : Nat} {W wr w' : World} (h : W.grownBy wr (some D)) (k : wr.grownBy w' (some R)) (hR : W.heap.size ≤ R) : W.grownBy w' (some D) :=
  ⟨k.os.trans h.os, k.tape.trans h.tape, k.output.trans h.output, Nat.le_trans h.size k.size, fun b hb hne => (k.block b (Nat.lt_of_lt_of_le hb h.size) (fun e => by injection e with e; omega)).trans (h.block b hb hne)⟩
theorem grown_set4 (R : Nat) (v0 v1 v2 v3 : Value) (W : World) : W.grownBy ((((W.setCell ⟨R, 0, none⟩ v0).setCell ⟨R, 1, none⟩ v1).setCell ⟨R, 2, none⟩ v2).setCell ⟨R, 3, none⟩ v3) (some R) :=
  grown_trans (grown_trans (grown_trans (grown_set _ _ _ _) (grown_set _ _ _ _)) (grown_set _ _ _ _)) (grown_set _ _ _ _)
theorem grown_setRow (K : Nat) (cs : Array Value) (W : World) : W.grownBy (W.setRow K cs) (some K) :=
  ⟨rfl, rfl, rfl, by simp, fun b hb hne => setRow_other _ _ _ _ (fun e => hne (by rw [e]))⟩
theorem fold_get (la : List Value) : ∀ (k : Nat) (Z : Array Value) (j : Nat), ((la.zipIdx k).foldl (fun (cs : Array Value) (x : Value × Nat) => cs.setIfInBounds x.snd x.fst) Z)[j]? = if k ≤ j ∧ j < k + la.length ∧ j < Z.size then la[j - k]? else Z[j]? := by
  induction la with
  | nil => intro k Z j; rw [if_neg (by simp; omega)]; rfl
  | cons a tl ih =>
    intro k Z j
    rw [List.zipIdx_cons, List.foldl_cons, ih (k + 1) (Z.setIfInBounds k a) j]
    simp only [Array.size_setIfInBounds, List.length_cons]
    by_cases h1 : k + 1 ≤ j ∧ j < k + 1 + tl.length ∧ j < Z.size
    · rw [if_pos h1, if_pos (by omega), show j - k = (j - (k + 1)) + 1 by omega, List.getElem?_cons_succ]
    · rw [if_neg h1, Array.getElem?_setIfInBounds]
      by_cases h2 : k = j
      · subst h2
        by_cases h3 : k < Z.size
        · rw [if_pos rfl, if_pos h3, if_pos (by omega), Nat.sub_self]; rfl
        · rw [if_pos rfl, if_neg h3, if_neg (by omega), Array.getElem?_eq_none (by omega)]
      · rw [if_neg h2, if_neg (by omega)]
theorem fold_row (la : List Value) (Z : Array Value) (h : Z.size = la.length) : la.zipIdx.foldl (fun (cs : Array Value) (x : Value × Nat) => cs.setIfInBounds x.snd x.fst) Z = la.toArray := by
  apply Array.ext_getElem?
  intro j
  rw [fold_get la 0 Z j]
  by_cases hj : j < la.length
  · rw [if_pos (by omega)]; simp
  · rw [if_neg (by omega), Array.getElem?_eq_none (by omega)]; simp; omega
theorem own_base {w : World} {b b' : Nat} {e : TypeId} {z : Nat} {v : Value} {n : Nat} {xs : List Value} (h : w.ownsRow b e z v n xs) (hb : b' ≤ b) : w.ownsRow b' e z v n xs := by
  refine ⟨h.1, ?_⟩
  rcases h.2 with h | ⟨g, cap, cur, h1, h2, h3⟩
  · exact .inl h
  · exact .inr ⟨g, cap, cur, h1, by omega, h3⟩
theorem tk_some {N n : Nat} {s : Option Nat} {p' : Nat} (h : tk N n s = some p') : ∃ p, s = some p ∧ p' = p + n ∧ p + n ≤ N := by
  unfold tk at h
  obtain ⟨p, hp, h2⟩ := Option.bind_eq_some_iff.1 h
  by_cases hc : p + n ≤ N
  · rw [if_pos hc] at h2; injection h2 with h2; exact ⟨p, hp, h2.symm, hc⟩
  · rw [if_neg hc] at h2; cases h2
theorem bt_some {N : Nat} {f : Nat → UInt8} {s : Option Nat} {p' : Nat} (h : bt N f s = some p') : ∃ p, s = some p ∧ p' = p + 4 + be32 f p ∧ p + 4 ≤ N ∧ be32 f p ≤ N - (p + 4) := by
  unfold bt at h
  obtain ⟨p, hp, h2⟩ := Option.bind_eq_some_iff.1 h
  by_cases hc : p + 4 ≤ N ∧ be32 f p ≤ N - (p + 4)
  · rw [if_pos hc] at h2; injection h2 with h2; exact ⟨p, hp, h2.symm, hc.1, hc.2⟩
  · rw [if_neg hc] at h2; cases h2
theorem load_g {P : Program} {ops : Array Oper} {rest : List Oper} {op : Oper} {a : Act} {w : World} {Q : Exit → Act → World → Prop} (hgd : Region.wanted op (yielded ops a.tmps) = true) (ty : TypeId) (x : Operand) (ho : op.op = .load ty x)
    (b o : Nat) (hx : a.eval x = .pointer (some ⟨b, o, none⟩)) (cs : List Value) (d : TypeDesc) (hc : w.rangeAt b o cs)
    (hu : P.underlying ty = some d) (hd : d.isRow = true) (hi : (P.info? ty).map (·.size) = some cs.length)
    (h : wpList P ops Q rest (a.put op.dst (.agg cs.toArray)) w) : wpList P ops Q (op :: rest) a w :=
  wpList_step fun _ hK => by rw [if_pos hgd]; exact wp_load_mid ty x ho b o hx cs d hc hu hd hi (hK _ _ h)

set_option maxRecDepth 8000 in
set_option maxHeartbeats 8000000 in
theorem request_16 (F : Interp) (D B N : Nat) (f : Nat → UInt8) (s : Option Nat) (W : World) (hF : F.answers W.tape) (he : Env D B N f W) (hst : St D B N s W) :
    Calls Tryf.prog 16 #[.pointer (some ⟨D, 0, none⟩)] W (ReqPost D B N f s W) := by
  have hD := hst.lt
  have b0 := (Below.refl W.heap.size W).alloc (Nat.le_refl _) (.cells #[.int .u64 0, .int .u64 0, .slice none 0 0, .slice none 0 0] 38)
  have st0 := hst.below b0
  have en0 := he.grown (grown_below b0)
  have x0 := heap_alloc_new W (.cells #[.int .u64 0, .int .u64 0, .slice none 0 0, .slice none 0 0] 38)
  have z0 : (W.alloc (.cells #[.int .u64 0, .int .u64 0, .slice none 0 0, .slice none 0 0] 38)).heap.size = W.heap.size + 1 := by simp
  have h20a := uint64_20 D B N f s _ en0 st0
  go_enter Tryf.func16, Tryf.ntmps16
  go_wp2_with (first
    | (go_at_call 20; (with_reducible refine h20a.mono ?_); rintro e w1 ⟨c, rfl, st1, g1, v1⟩; have en1 := en0.grown g1)
    | (go_at_call 20; (with_reducible refine (uint64_20 D B N f _ w1 en1 st1).mono ?_); rintro e w2 ⟨q, rfl, st2, g2, v2⟩; have en2 := en1.grown g2)
    | (go_at_call 21
       (with_reducible refine (bytes_21 D B N f _ w2 en2 st2).mono ?_)
       rintro e w3 ⟨a, l, c', rfl, hl, st3, g3, v3⟩
       have hl' : (l : Int) ≤ 16773120 := by omega
       have b3 := (Below.refl w3.heap.size w3).alloc (Nat.le_refl _) (.cells #[.int .u64 (c : Int), .int .u64 (q : Int), .slice a l c', .slice none 0 0] 38)
       have st3a := st3.below b3
       have en3a := (en2.grown g3).grown (grown_below b3)
       have hF3 : F.answers (w3.alloc (.cells #[.int .u64 (c : Int), .int .u64 (q : Int), .slice a l c', .slice none 0 0] 38)).tape := by
         have e3 : w3.tape = W.tape := g3.tape.trans (g2.tape.trans (g1.tape.trans b0.tape))
         show F.answers w3.tape
         rw [e3]; exact hF
       have h14 : Calls Tryf.prog 14 #[.pointer (some ⟨D, 0, none⟩), .int .i64 32] (w3.alloc (.cells #[.int .u64 (c : Int), .int .u64 (q : Int), .slice a l c', .slice none 0 0] 38)) (CntPost D B N f 32 (bt N f (tk N 8 (tk N 8 s))) (w3.alloc (.cells #[.int .u64 (c : Int), .int .u64 (q : Int), .slice a l c', .slice none 0 0] 38))) := count_14 F D B N 32 f _ _ hF3 en3a st3a (by omega))
    | (go_at_call 14; (with_reducible refine h14.mono ?_); rintro e w4 ⟨r, rfl, st4, g4, r0, r1⟩))
  obtain ⟨s4, hs4⟩ : ∃ s4, s4 = ct N f 32 (bt N f (tk N 8 (tk N 8 s))) := ⟨_, rfl⟩
  obtain ⟨p0, hp0⟩ : ∃ p0, p0 = s4.getD 0 := ⟨_, rfl⟩
  have gW3 : W.grownBy w3 (some D) := grown_trans (grown_below b0) (grown_trans g1 (grown_trans g2 g3))
  have sz3 : W.heap.size + 1 ≤ w3.heap.size := by have := g1.size; have := g2.size; have := g3.size; omega
  have hInv0 : LInv D B N f s4 W.heap.size w3.heap.size p0 c q (.slice a l c') W 0 w4 := by
    have hDR : ∀ k, W.heap.size ≤ k → (some k : Option Nat) ≠ some D := fun k hk e => by injection e with e; omega
    refine ⟨?_, ⟨.slice none 0 0, ?_, ?_⟩, ?_, ?_⟩
    · rw [g4.block _ (by simp; omega) (hDR _ (Nat.le_refl _)), b3.block _ (by omega), g3.block _ (by have := g1.size; have := g2.size; omega) (hDR _ (Nat.le_refl _)), g2.block _ (by have := g1.size; omega) (hDR _ (Nat.le_refl _)), g1.block _ (by omega) (hDR _ (Nat.le_refl _))]
      exact x0
    · rw [g4.block _ (by simp) (hDR _ (by omega))]
      exact heap_alloc_new w3 _
    · exact World.ownsRow_nil _ _ _ _
    · exact grown_trans gW3 (grown_trans (grown_below b3) g4)
    · rw [← hs4] at st4
      cases s4 with
      | none => exact st4
      | some p => exact st4
  have hsz4 : w3.heap.size + 1 ≤ w4.heap.size := by have := g4.size; simp at this; omega
  have hr32 : Hid (∀ p, s4 = some p → p + 32 * r ≤ N ∧ p0 = p) := fun p hp => by
    obtain ⟨p1, h1, h2, h3, h4⟩ := ct_some (hs4.symm.trans hp)
    have := r1 p (hs4.symm.trans hp)
    rw [h2, Nat.add_sub_cancel] at this
    rw [hp0, hp]
    exact ⟨by rw [h2, this]; omega, rfl⟩
  have hr0 : Hid (s4 = none → r = 0) := fun h => r0 (hs4.symm.trans h)
  have hrq : Hid (rq N f s = s4.map (fun x => x + 32 * r)) := by
    show rq N f s = _
    unfold rq
    rw [← hs4]
    cases hh : s4 with
    | none => rfl
    | some p4 =>
      have := r1 p4 (hs4.symm.trans hh)
      show some (p4 + 32 * be32 f (p4 - 4)) = some (p4 + 32 * r)
      rw [← this]
  have hfin : Hid (∀ p p', s = some p → s4.map (fun x => x + 32 * r) = some p' → ∀ au w', w'.ownsRow (w3.heap.size + 1) 44 32 au r (brow f p0 (32 * r)) → rq N f s = s4.map (fun x => x + 32 * r) ∧ ReqAt B f p p' W.heap.size c q a l au w') := by
    intro p p' hsp hmap au w' how
    refine ⟨hrq.out, ?_⟩
    obtain ⟨p4, h4, hp'⟩ := Option.map_eq_some_iff.1 hmap
    have hc4 := hs4.symm.trans h4
    obtain ⟨p3, h3, e4, _, _⟩ := ct_some hc4
    obtain ⟨p2, h2, e3, _, _⟩ := bt_some h3
    obtain ⟨p1, h1, e2, _⟩ := tk_some h2
    obtain ⟨pp, hpp, e1, _⟩ := tk_some h1
    obtain rfl : p = pp := by rw [hsp] at hpp; injection hpp
    have q1 := v1 p1 h1
    have q2 := v2 p2 h2
    have q3 := v3 p2 p3 h2 h3
    have q4 := r1 p4 hc4
    have ep0 : p0 = p4 := by rw [hp0, h4]; rfl
    obtain ⟨el, ea, e3'⟩ := q3
    have e24 : p4 = p + 24 + l := by omega
    have e20 : p4 - 4 = p + 20 + l := by omega
    rw [e20] at q4
    refine ⟨by rw [q1]; congr 1; omega, by rw [q2]; congr 1; omega, by rw [el]; congr 1; omega, ?_, ?_, by rw [← q4]; omega⟩
    · rcases ea with h | h
      · exact .inl h
      · right; rw [h]; congr 2; omega
    · rw [← q4, ← e24, ← ep0]
      exact own_base how (by omega)
  have hrb : r ≤ 1048576 := by
    have := he.lim
    cases hh : s4 with
    | none => have := hr0.out hh; omega
    | some p => have := (hr32.out p hh).1; omega
  have hrb' : (r : Int) ≤ 1048576 := by omega
  have htW : W.tape = w4.tape := (hInv0.gr.tape).symm
  clear st0 en0 x0 z0 h20a v1 v2 v3 r0 r1 g1 g2 g3 st1 st2 st3 st3a st4 en1 en2 en3a h14 hF3 b3 g4 hs4 hp0 gW3
  obtain ⟨info, hi0, hz0, hz1, hz2⟩ := info_parts (P := Tryf.prog) (e := 44) (z := .agg #[.int .u8 0, .int .u8 0, .int .u8 0, .int .u8 0, .int .u8 0, .int .u8 0, .int .u8 0, .int .u8 0, .int .u8 0, .int .u8 0, .int .u8 0, .int .u8 0, .int .u8 0, .int .u8 0, .int .u8 0, .int .u8 0, .int .u8 0, .int .u8 0, .int .u8 0, .int .u8 0, .int .u8 0, .int .u8 0, .int .u8 0, .int .u8 0, .int .u8 0, .int .u8 0, .int .u8 0, .int .u8 0, .int .u8 0, .int .u8 0, .int .u8 0, .int .u8 0]) (size := 32) (bytes := 32) (by kernel_rfl)
  go_wp2
  go_loopw [37] (fun i wr => ∃ i' : Nat, i' ≤ r ∧ i = .int .i64 i' ∧ LInv D B N f s4 W.heap.size w3.heap.size p0 c q (.slice a l c') W i' wr ∧ w3.heap.size + 1 ≤ wr.heap.size) (fun i _ => r - (intOf i).toNat)
  case atStart => exact ⟨0, by omega, rfl, hInv0, hsz4⟩
  case round =>
    clear hInv0 hsz4
    obtain ⟨i, hi, rfl, hI, hszr⟩ := hrel
    by_cases hlt : i < r
    · have hlt' : (i : Int) < (r : Int) := by omega
      obtain ⟨hslot, ⟨au, hreq, hown⟩, hgr, hstr⟩ := hI
      obtain ⟨p, hs4⟩ : ∃ p, s4 = some p := by
        cases hh : s4 with
        | none => have := hr0.out hh; omega
        | some p => exact ⟨p, rfl⟩
      obtain ⟨hp32, hpp⟩ := hr32.out p hs4
      have hstr2 : St D B N (some (p + 32 * i)) wr := by rw [hs4] at hstr; exact hstr
      have enr := he.grown hgr
      obtain ⟨W7, hW7⟩ : ∃ W7, W7 = (wr.alloc (.cells #[.int .u8 0, .int .u8 0, .int .u8 0, .int .u8 0, .int .u8 0, .int .u8 0, .int .u8 0, .int .u8 0, .int .u8 0, .int .u8 0, .int .u8 0, .int .u8 0, .int .u8 0, .int .u8 0, .int .u8 0, .int .u8 0, .int .u8 0, .int .u8 0, .int .u8 0, .int .u8 0, .int .u8 0, .int .u8 0, .int .u8 0, .int .u8 0, .int .u8 0, .int .u8 0, .int .u8 0, .int .u8 0, .int .u8 0, .int .u8 0, .int .u8 0, .int .u8 0] 44)) := ⟨_, rfl⟩
      have hb8 : Below wr.heap.size wr W7.drew := by rw [hW7]; exact ((Below.refl _ _).alloc (Nat.le_refl _) _).drew
      have hk8 : ∃ Z : Array Value, Z.size = 32 ∧ W7.drew.heap[wr.heap.size]? = some (.cells Z 44 (0, 0)) := ⟨_, rfl, by rw [hW7]; exact heap_alloc_new wr _⟩
      obtain ⟨Z, hZ, hk8⟩ := hk8
      have st8 := hstr2.below hb8
      have en8 := enr.grown (grown_below hb8)
      have hgr8 : W.grownBy W7.drew (some D) := grown_trans hgr (grown_below hb8)
      have hs8 : W7.drew.heap.size = wr.heap.size + 1 := by rw [hW7]; simp
      obtain ⟨hf8, hp8, ⟨q8, hq8, c0⟩, c1⟩ := st8
      obtain rfl : q8 = p + 32 * i := hq8.resolve_left (by omega)
      have h17 : Calls Tryf.prog 17 #[.pointer (some ⟨D, 0, none⟩), .int .i64 32] W7.drew fun e w' => e = .returned (.slice (some ⟨B, p + 32 * i, none⟩) 32 32) ∧ St D B N (some (p + 32 * i + 32)) w' ∧ W7.drew.grownBy w' (some D) := take_ok D B N (p + 32 * i) (p + 32 * i) 32 _ W7.drew rfl hf8 hq8 c0 c1 (by omega)
      have hDK : (some wr.heap.size : Option Nat) ≠ some D := fun e => by injection e with e; have := hstr2.lt; omega
      have hcpy : ∀ w9 : World, W7.drew.grownBy w9 (some D) → ∀ ty, (Builtin.copy_ #[22, 22] ty #[.slice (some ⟨wr.heap.size, 0, none⟩) 32 32, .slice (some ⟨B, p + 32 * i, none⟩) 32 32]).run Tryf.prog w9 = .ok (goInt 32) (w9.setRow wr.heap.size (brow f (p + 32 * i) 32).toArray) := fun w9 h9 ty => by
        have hb9 := (en8.grown h9).buf
        have := run_copy_row (P := Tryf.prog) w9 22 22 ty 5 wr.heap.size 0 32 32 ⟨B, p + 32 * i, none⟩ 32 32 Z 44 (brow f (p + 32 * i) 32) Tryf.underlying22 (by kernel_rfl) ((h9.block _ (by omega) hDK).trans hk8) (by rw [brow_len]; rfl) (fun j v hv => by
          obtain ⟨hj, rfl⟩ := brow_at hv
          rw [Addr.add_mid]
          exact hb9 _ (by omega)) (by rw [brow_len]; omega) (brow_one _ _ _)
        rw [this, brow_len]
        congr 2
        rw [List.take_zero, List.nil_append, Nat.zero_add, List.drop_eq_nil_of_le (by simp [hZ]), List.append_nil]
      clear hst hf8 hp8 hq8 c0 c1
      go_wp2
      rw [← hW7]
      clear hW7
      go_region_held3 (fun _ => True)
        (trivial)
        ((go_at_call 17; (with_reducible refine h17.mono ?_); rintro e w9 ⟨rfl, st9, g9⟩; have hcp := hcpy w9 g9))
      have hgR := grown_setRow wr.heap.size (brow f (p + 32 * i) 32).toArray w9
      have hkR := setRow_heap w9 wr.heap.size _ (brow f (p + 32 * i) 32).toArray _ _ ((g9.block _ (by omega) hDK).trans hk8)
      obtain ⟨W10, hW10⟩ : ∃ W10, W10 = w9.setRow wr.heap.size (brow f (p + 32 * i) 32).toArray := ⟨_, rfl⟩
      rw [← hW10] at hgR hkR ⊢
      clear hW10 hcp hcpy
      have hwD := hstr2.lt
      have hgrW : W.heap.size ≤ wr.heap.size := hgr.size
      have e9 : ∀ b, b < wr.heap.size → b ≠ D → W10.heap[b]? = wr.heap[b]? := fun b h1 h2 => by
        rw [hgR.block b (by have := g9.size; omega) (fun e => by injection e with e; omega), g9.block b (by omega) (fun e => h2 (by injection e)), hb8.block b h1]
      have hreq10 := (e9 w3.heap.size (by omega) (by omega)).trans hreq
      have hslot10 := (e9 W.heap.size (by omega) (by omega)).trans hslot
      have hown10 : W10.ownsRow (w3.heap.size + 1) 44 32 au i (brow f p0 (32 * i)) :=
        ((hown.kept (row := none) ⟨hb8.os, hb8.tape, hb8.output, hb8.size, fun b hb _ => hb8.block b hb⟩ (by cases h : au.ownBlock with | none => exact .inl rfl | some g => exact .inr (by simp))).kept g9 (.inr (fun e => by have := (hown.lt _ e).1; omega))).kept hgR (.inr (fun e => by have := (hown.lt _ e).2; omega))
      have hsz10 : wr.heap.size < W10.heap.size := by have := g9.size; have := hgR.size; omega
      have hst10 : St D B N (some (p + 32 * i + 32)) W10 := st9.of_block (hgR.block D (by have := g9.size; omega) (fun e => hDK e.symm))
      have hgr10 : W.grownBy W10 (some D) := grown_new (grown_trans hgr8 g9) hgR (by omega)
      obtain ⟨la, hla⟩ : ∃ la, la = brow f (p + 32 * i) 32 := ⟨_, rfl⟩
      have hll : la.length = 32 := by rw [hla, brow_len]
      have hl1 : ∀ v ∈ la, v.oneCell' = true := by rw [hla]; exact brow_one _ _ _
      have hlh : Hid (la = brow f (p + 32 * i) 32) := hla
      rw [← hla] at hkR
      clear hla hgR hk8
      have hownV := hown10.kept (World.grownBy_alloc W10 (.cells (la).toArray 44) none) (by cases h : au.ownBlock with | none => exact .inl rfl | some g => exact .inr (by simp))
      have hrange : W10.rangeAt wr.heap.size 0 (la) := fun j v hv => by
        rw [Nat.zero_add, cell_of_row _ _ _ _ _ _ hkR]; simpa using hv
      have ka : W10.cell? ⟨w3.heap.size, 3, none⟩ = some au := by rw [cell_of_row _ _ _ _ _ _ hreq10]; rfl
      have hia : (Tryf.prog.info? 44).map (·.size) = some (la).length := by rw [hll]; kernel_rfl
      have hfold := fold_row la #[.int .u8 0, .int .u8 0, .int .u8 0, .int .u8 0, .int .u8 0, .int .u8 0, .int .u8 0, .int .u8 0, .int .u8 0, .int .u8 0, .int .u8 0, .int .u8 0, .int .u8 0, .int .u8 0, .int .u8 0, .int .u8 0, .int .u8 0, .int .u8 0, .int .u8 0, .int .u8 0, .int .u8 0, .int .u8 0, .int .u8 0, .int .u8 0, .int .u8 0, .int .u8 0, .int .u8 0, .int .u8 0, .int .u8 0, .int .u8 0, .int .u8 0, .int .u8 0] (by rw [hll]; rfl)
      clear h17 hstr hstr2 st9
      go_wp2_with (first
        | (refine load_g (by rfl) 44 _ rfl _ _ rfl (la) _ hrange Tryf.underlying44 rfl hia ?_)
        | (at_builtin; refine wpList_append_own _ rfl (.tmp 44) (.tmp 46) 36 rfl (w3.heap.size + 1) 44 info _ 32 32 Tryf.underlying36 hi0 hz0 hz1 hz2 rfl (by decide) au i (brow f p0 (32 * i)) rfl hownV ⟨W10.heap.size, 0, none⟩ 1 1 (la) rfl (by rw [hll]) ?qn ?q1 ?qm ?qb ?qB ?_))
      case qn =>
        intro j u hu
        rw [Addr.add_mid, Nat.zero_add, cell_of_row _ _ _ _ _ _ (heap_alloc_new W10 _)]
        simpa using hu
      case q1 => exact hl1
      case qm => unfold maxLen; omega
      case qb => omega
      case qB => simp; omega
      intro v' w11 hown11 hg11 _
      obtain ⟨aa, ac, rfl⟩ : ∃ aa ac, v' = .slice aa (i + 1) ac := by
        rcases hown11.2 with ⟨h1, h2⟩ | ⟨g, cap, cur, h1, _⟩
        · omega
        · exact ⟨_, _, h1⟩
      have hbA := (Below.refl W10.heap.size W10).alloc (Nat.le_refl _) (.cells la.toArray 44)
      have hsA : (W10.alloc (.cells la.toArray 44)).heap.size = W10.heap.size + 1 := by simp
      have e11 : ∀ b, b < w3.heap.size + 1 → w11.heap[b]? = W10.heap[b]? := fun b hb => by
        rw [hg11.block b (by omega) (fun e => by have := (hown10.lt _ e.symm).1; omega), hbA.block b (by omega)]
      have hreq11 := (e11 w3.heap.size (by omega)).trans hreq10
      have hslot11 := (e11 W.heap.size (by omega)).trans hslot10
      have kb : w11.cell? ⟨w3.heap.size, 3, none⟩ = some au := by rw [cell_of_row _ _ _ _ _ _ hreq11]; rfl
      have kf : w11.frozen? ⟨w3.heap.size, 3, none⟩ = false := frozen_of_row _ _ _ _ _ hreq11
      have hgs := grown_set w3.heap.size 3 (.slice aa (i + 1) ac) w11
      have hrs := heap_setCell_same w11 w3.heap.size 3 _ 38 (.slice aa (i + 1) ac) hreq11
      have hsz11 := hg11.size
      have hgr11 : W.grownBy w11 (some D) := ⟨hg11.os.trans hgr10.os, hg11.tape.trans hgr10.tape, hg11.output.trans hgr10.output, by omega, fun b hb hne => (e11 b (by omega)).trans (hgr10.block b hb hne)⟩
      have hgrf := grown_new hgr11 hgs (by omega)
      have hstf := (hst10.of_block (e11 D (by omega))).of_block (hgs.block D (by omega) (fun e => by injection e with e; omega))
      have hownf := hown11.kept hgs (.inr (fun e => by have := (hown11.lt _ e).1; omega))
      have hslotf := (hgs.block W.heap.size (by omega) (fun e => by injection e with e; omega)).trans hslot11
      clear hreq hslot hreq10 hslot10 hown hown10 hownV hrange ka hia e9 e11 hfold hkR hst10 hgr10 hreq11 hslot11 hgr11
      go_wp2
      go_roundw
      case rel =>
        refine ⟨i + 1, by omega, by go_num, ⟨hslotf, ⟨_, hrs, ?_⟩, hgrf, ?_⟩, by have := hgs.size; omega⟩
        · rw [hlh.out, ← hpp] at hownf
          rw [show 32 * (i + 1) = 32 * i + 32 by omega, brow_add]
          exact hownf
        · rw [hs4]
          show St D B N (some (p + 32 * (i + 1))) _
          rw [show p + 32 * (i + 1) = p + 32 * i + 32 by omega]
          exact hstf
      case measure => simp [intOf]; omega
    · obtain rfl : i = r := by omega
      obtain ⟨hslot, ⟨au, hreq, hown⟩, hgr, hstf⟩ := hI
      have k0 : wr.cell? ⟨w3.heap.size, 0, none⟩ = some (.int .u64 (c : Int)) := by rw [cell_of_row _ _ _ _ _ _ hreq]; rfl
      have k1 : wr.cell? ⟨w3.heap.size, 1, none⟩ = some (.int .u64 (q : Int)) := by rw [cell_of_row _ _ _ _ _ _ hreq]; rfl
      have k2 : wr.cell? ⟨w3.heap.size, 2, none⟩ = some (.slice a l c') := by rw [cell_of_row _ _ _ _ _ _ hreq]; rfl
      have k3 : wr.cell? ⟨w3.heap.size, 3, none⟩ = some au := by rw [cell_of_row _ _ _ _ _ _ hreq]; rfl
      have m0 : wr.cell? ⟨W.heap.size, 0, none⟩ = some (.int .u64 0) := by rw [cell_of_row _ _ _ _ _ _ hslot]; rfl
      have m1 : wr.cell? ⟨W.heap.size, 1, none⟩ = some (.int .u64 0) := by rw [cell_of_row _ _ _ _ _ _ hslot]; rfl
      have m2 : wr.cell? ⟨W.heap.size, 2, none⟩ = some (.slice none 0 0) := by rw [cell_of_row _ _ _ _ _ _ hslot]; rfl
      have m3 : wr.cell? ⟨W.heap.size, 3, none⟩ = some (.slice none 0 0) := by rw [cell_of_row _ _ _ _ _ _ hslot]; rfl
      have n0 : wr.frozen? ⟨W.heap.size, 0, none⟩ = false := frozen_of_row _ _ _ _ _ hslot
      have n1 : wr.frozen? ⟨W.heap.size, 1, none⟩ = false := frozen_of_row _ _ _ _ _ hslot
      have n2 : wr.frozen? ⟨W.heap.size, 2, none⟩ = false := frozen_of_row _ _ _ _ _ hslot
      have n3 : wr.frozen? ⟨W.heap.size, 3, none⟩ = false := frozen_of_row _ _ _ _ _ hslot
      obtain ⟨aa, ac, rfl⟩ : ∃ aa ac, au = .slice aa i ac := by
        rcases hown.2 with ⟨h1, h2⟩ | ⟨g, cap, cur, h1, _⟩
        · exact ⟨none, 0, by rw [h1, h2]⟩
        · exact ⟨_, _, h1⟩
      go_wp2
      have hg4 := grown_set4 W.heap.size (.int .u64 (c : Int)) (.int .u64 (q : Int)) (.slice a l c') (.slice aa i ac) wr
      refine bodyPost_ret (v := .agg #[.int .u64 (c : Int), .int .u64 (q : Int), .slice a l c', .slice aa i ac]) (by simp [results, Tryf.results16, go_sem, m0, m1, m2, m3]) rfl ?_
      have hDR : (some D : Option Nat) ≠ some W.heap.size := fun e => by injection e with e; omega
      have hown2 := hown.kept hg4 (.inr (fun e => by have := (hown.lt _ e).1; omega))
      refine ⟨c, q, a, l, c', .slice aa i ac, rfl, ⟨_, _, _, rfl⟩, ?_, grown_new hgr hg4 (Nat.le_refl _), ?_⟩
      · rw [hrq.out]
        exact hstf.of_block (hg4.block D (Nat.lt_of_lt_of_le hD hgr.size) hDR)
      · intro p p' h1 h2
        rw [hrq.out] at h2
        exact (hfin.out p p' h1 h2 _ _ hown2).2
end Go.Proofs.Qxb6608948aFmt
