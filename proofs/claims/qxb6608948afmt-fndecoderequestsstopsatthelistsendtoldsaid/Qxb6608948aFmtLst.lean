/-
  decodeRequests.
-/
import Derived.Test.Qxb6608948aFmtReq
namespace Go.Proofs.Qxb6608948aFmt
set_option linter.unusedSimpArgs false
set_option linter.unusedVariables false
open Go.RowKit Go.Extern.Stop Go.Stop Go.Extern

theorem size_15 (W : World) : Calls Tryf.prog 15 #[.agg #[.int .u64 0, .int .u64 0, .slice none 0 0, .slice none 0 0]] W fun e w' => e = .returned (.int .i64 24) ∧ Below W.heap.size W w' := by
  go_enter Tryf.func15, Tryf.ntmps15
  go_wp2
  go_ret
  exact ⟨rfl, by go_grown⟩

/-- The states behind i requests. -/
def sts (N : Nat) (f : Nat → UInt8) (s : Option Nat) : Nat → Option Nat
  | 0 => s
  | i + 1 => rq N f (sts N f s i)
theorem own_ne {w : World} {b1 b2 n1 n2 : Nat} {v1 v2 : Value} {x1 x2 : List Value} (h1 : w.ownsRow b1 44 32 v1 n1 x1) (h2 : w.ownsRow b2 38 4 v2 n2 x2) : v1.ownBlock = none ∨ v1.ownBlock ≠ v2.ownBlock := by
  rcases h1.2 with ⟨rfl, _⟩ | ⟨g, cap, cur, rfl, _, hg, _⟩
  · exact .inl rfl
  · right
    intro e
    rcases h2.2 with ⟨rfl, _⟩ | ⟨g', cap', cur', rfl, _, hg', _⟩
    · cases e
    · obtain rfl : g = g' := by simpa [Value.ownBlock] using e
      have := hg.symm.trans hg'
      simp at this
theorem ReqAt.kept {B : Nat} {f : Nat → UInt8} {p p' base c q : Nat} {a : Option Addr} {l : Nat} {au : Value} {W W' : World} {row : Option Nat} (h : ReqAt B f p p' base c q a l au W) (hg : W.grownBy W' row) (hne : au.ownBlock = none ∨ au.ownBlock ≠ row) : ReqAt B f p p' base c q a l au W' :=
  ⟨h.client, h.reqid, h.len, h.tx, h.auth.kept hg hne, h.stop⟩
theorem ReqAt.base {B : Nat} {f : Nat → UInt8} {p p' base base' c q : Nat} {a : Option Addr} {l : Nat} {au : Value} {W : World} (h : ReqAt B f p p' base c q a l au W) (hb : base' ≤ base) : ReqAt B f p p' base' c q a l au W :=
  ⟨h.client, h.reqid, h.len, h.tx, own_base h.auth hb, h.stop⟩

/-- The list's elements: their cells, and what was read. -/
def Els (B N : Nat) (f : Nat → UInt8) (s : Option Nat) (base k : Nat) (xs : List Value) (W : World) : Prop :=
  ∀ j, j < k → ∃ (c q : Nat) (a : Option Addr) (l c' : Nat) (au : Value), xs[j * 4]? = some (.int .u64 (c : Int)) ∧ xs[j * 4 + 1]? = some (.int .u64 (q : Int)) ∧ xs[j * 4 + 2]? = some (.slice a l c') ∧ xs[j * 4 + 3]? = some au ∧
    (∃ aa k ac, au = .slice aa k ac) ∧ ∀ p p', sts N f s j = some p → sts N f s (j + 1) = some p' → ReqAt B f p p' base c q a l au W

def ListPost (D B N : Nat) (f : Nat → UInt8) (s : Option Nat) (W : World) (e : Ending) (w' : World) : Prop :=
  ∃ (v : Value) (n : Nat) (xs : List Value), e = .returned v ∧ w'.ownsRow W.heap.size 38 4 v n xs ∧ (s = none → n = 0) ∧ (∀ p, s = some p → n = be32 f (p - 4)) ∧ St D B N (sts N f s n) w' ∧ W.grownBy w' (some D) ∧ Els B N f s W.heap.size n xs w'

set_option maxRecDepth 8000 in
set_option maxHeartbeats 8000000 in
/-- From the count on: s is the state behind it, n what it gave. -/
theorem requests_13 (F : Interp) (D B N : Nat) (f : Nat → UInt8) (s : Option Nat) (W : World) (hF : F.answers W.tape) (he : Env D B N f W) (hD : D < W.heap.size)
    (hcnt : ∀ W1 : World, Below W.heap.size W W1 → Calls Tryf.prog 14 #[.pointer (some ⟨D, 0, none⟩), .int .i64 24] W1 fun e w' => ∃ r : Nat, e = .returned (.int .i64 (r : Int)) ∧ r ≤ 1048576 ∧ St D B N s w' ∧ W1.grownBy w' (some D) ∧ (s = none → r = 0) ∧ ∀ p, s = some p → r = be32 f (p - 4)) :
    Calls Tryf.prog 13 #[.pointer (some ⟨D, 0, none⟩)] W (ListPost D B N f s W) := by
  obtain ⟨info, hi0, hz0, hz1, hz2⟩ := info_parts (P := Tryf.prog) (e := 38) (z := .agg #[.int .u64 0, .int .u64 0, .slice none 0 0, .slice none 0 0]) (size := 4) (bytes := 64) (by kernel_rfl)
  go_enter Tryf.func13, Tryf.ntmps13
  go_wp2_with (first
    | (go_at_call 15; refine (size_15 _).mono ?_; rintro e w1 ⟨rfl, hb1⟩)
    | (go_at_call 14; (with_reducible refine (hcnt w1 hb1).mono ?_); rintro e w2 ⟨r, rfl, hrb, st2, g2, r0, r1⟩))
  have hrb' : (r : Int) ≤ 1048576 := by omega
  have hg2 : W.grownBy w2 (some D) := grown_trans (grown_below hb1) g2
  clear hcnt g2 hb1
  go_loopw [4, 10] (fun v i wr => ∃ (i' : Nat) (xs : List Value), i' ≤ r ∧ i = .int .i64 i' ∧ wr.ownsRow W.heap.size 38 4 v i' xs ∧ St D B N (sts N f s i') wr ∧ W.grownBy wr (some D) ∧ Els B N f s W.heap.size i' xs wr) (fun _ i _ => r - (intOf i).toNat)
  case atStart => exact ⟨0, [], by omega, rfl, World.ownsRow_nil _ _ _ _, st2, hg2, fun j hj => by omega⟩
  case round =>
    clear st2 hg2
    obtain ⟨i, xs, hi, rfl, hown, hst, hgr, hels⟩ := hrel
    by_cases hlt : i < r
    · have hlt' : (i : Int) < (r : Int) := by omega
      have h16 := request_16 F D B N f (sts N f s i) wr (by rw [hgr.tape]; exact hF) (he.grown hgr) hst
      have hszW := hgr.size
      have hnD : ∀ {w : World} {x : Value} {b z m : Nat} {t : TypeId} {ys : List Value}, W.heap.size ≤ b → w.ownsRow b t z x m ys → x.ownBlock ≠ some D := fun hb h e => by have := (h.lt _ e).1; omega
      go_wp2_with (first
        | (go_at_call 16
           (with_reducible refine h16.mono ?_)
           rintro e w1 ⟨c, q, a, l, c', au, rfl, ⟨aa, k, ac, rfl⟩, st1, g1, hreq⟩
           have hown1 := hown.kept g1 (.inr (hnD (Nat.le_refl _) hown))
           have hownV := hown1.kept (World.grownBy_alloc w1 (.cells #[.int .u64 (c : Int), .int .u64 (q : Int), .slice a l c', .slice aa k ac] 38) none) (by cases h : u4.ownBlock with | none => exact .inl rfl | some g => exact .inr (by simp)))
        | (at_builtin; refine wpList_append_own _ rfl (.tmp 12) (.tmp 15) 30 rfl W.heap.size 38 info _ 4 64 Tryf.underlying30 hi0 hz0 hz1 hz2 rfl (by decide) u4 i xs rfl hownV ⟨w1.heap.size, 0, none⟩ 1 1 [.int .u64 (c : Int), .int .u64 (q : Int), .slice a l c', .slice aa k ac] rfl rfl ?qn ?q1 ?qm ?qb ?qB ?_))
      case qn =>
        intro j u hu
        rw [Addr.add_mid, Nat.zero_add, cell_of_row _ _ _ _ _ _ (heap_alloc_new w1 _)]
        simpa using hu
      case q1 => intro u hu; simp at hu; rcases hu with rfl | rfl | rfl | rfl <;> rfl
      case qm => unfold maxLen; omega
      case qb => omega
      case qB => have := g1.size; simp; omega
      intro v' w2 hown2 hg2 _
      have hlen : xs.length = i * 4 := hown.1
      have hsz1 := g1.size
      have hgA := World.grownBy_alloc w1 (.cells #[.int .u64 (c : Int), .int .u64 (q : Int), .slice a l c', .slice aa k ac] 38) (none : Option Nat)
      have nn : ∀ x : Value, x.ownBlock = none ∨ x.ownBlock ≠ (none : Option Nat) := fun x => by cases h : x.ownBlock with
        | none => exact .inl rfl
        | some g => exact .inr (by simp)
      have e2 : ∀ b, b < W.heap.size → w2.heap[b]? = w1.heap[b]? := fun b hb => by
        rw [hg2.block b (by simp; omega) (fun e => by have := (hown.lt _ e.symm).1; omega), hgA.block b (by omega) (by simp)]
      have hst2 := st1.of_block (e2 D hD)
      have hgr2 : W.grownBy w2 (some D) := ⟨hg2.os.trans (g1.os.trans hgr.os), hg2.tape.trans (g1.tape.trans hgr.tape), hg2.output.trans (g1.output.trans hgr.output), by have := hg2.size; simp at this; omega, fun b hb hne => (e2 b hb).trans ((g1.block b (by omega) hne).trans (hgr.block b hb hne))⟩
      have hels2 : Els B N f s W.heap.size (i + 1) (xs ++ [.int .u64 (c : Int), .int .u64 (q : Int), .slice a l c', .slice aa k ac]) w2 := by
        intro j hj
        by_cases hji : j < i
        · obtain ⟨c1, q1, a1, l1, c1', au1, y0, y1, y2, y3, ysh, yr⟩ := hels j hji
          refine ⟨c1, q1, a1, l1, c1', au1, ?_, ?_, ?_, ?_, ysh, fun p p' h1 h2 => ?_⟩
          · rw [List.getElem?_append_left (by omega)]; exact y0
          · rw [List.getElem?_append_left (by omega)]; exact y1
          · rw [List.getElem?_append_left (by omega)]; exact y2
          · rw [List.getElem?_append_left (by omega)]; exact y3
          · have r1 := (yr p p' h1 h2).kept g1 (.inr (hnD (Nat.le_refl _) (yr p p' h1 h2).auth))
            have r2 := r1.kept hgA (nn _)
            exact r2.kept hg2 (own_ne r2.auth hownV)
        · obtain rfl : j = i := by omega
          refine ⟨c, q, a, l, c', .slice aa k ac, ?_, ?_, ?_, ?_, ⟨_, _, _, rfl⟩, fun p p' h1 h2 => ?_⟩
          · rw [List.getElem?_append_right (by omega), show j * 4 - xs.length = 0 by omega]; rfl
          · rw [List.getElem?_append_right (by omega), show j * 4 + 1 - xs.length = 1 by omega]; rfl
          · rw [List.getElem?_append_right (by omega), show j * 4 + 2 - xs.length = 2 by omega]; rfl
          · rw [List.getElem?_append_right (by omega), show j * 4 + 3 - xs.length = 3 by omega]; rfl
          · have r1 := (hreq p p' h1 h2).base hszW
            have r2 := r1.kept hgA (nn _)
            exact r2.kept hg2 (own_ne r2.auth hownV)
      clear hels hreq h16 hown hownV hown1 hst st1 g1 hgr hg2 e2 hgA
      go_wp2
      go_roundw
      case rel => exact ⟨i + 1, _, by omega, by go_num, hown2, hst2, hgr2, hels2⟩
      case measure => simp [intOf]; omega
    · obtain rfl : i = r := by omega
      go_wp2
      go_ret
      exact ⟨_, i, xs, rfl, hown, r0, r1, hst, hgr, hels⟩
end Go.Proofs.Qxb6608948aFmt
