/-
  One element of the two lists; the decoder from its start.
-/
import Derived.Test.Qxb6608948aFmtTwo
namespace Go.Proofs.Qxb6608948aFmt
set_option linter.unusedSimpArgs false
set_option linter.unusedVariables false
open Go.RowKit Go.Extern.Stop Go.Stop Go.Extern

/-- A buffer's bytes as numbers. -/
def num (f : Nat → UInt8) (p m : Nat) : Int := ((f (p + m)).toNat : Int)
theorem Buf.rd {B N : Nat} {f : Nat → UInt8} {W : World} (h : Buf B N f W) {p l : Nat} {a : Option Addr} (ha : l = 0 ∨ a = some ⟨B, p, none⟩) (hl : p + l ≤ N) : Rd a l (num f p) W := fun h0 => by
  refine ⟨B, p, ha.resolve_left (by omega), fun m hm => ?_⟩
  exact h (p + m) (by omega)

theorem same_el {N M : Nat} {f g : Nat → UInt8} (h : Agree N M f g) {p p' B1 B2 b1 b2 c1 c2 q1 q2 l1 l2 z1 z2 k1 k2 y1 y2 : Nat} {a1 a2 x1 x2 : Option Addr} {W : World} (hN : N ≤ 1048576) (e : rq N f (some p) = some p')
    (r1 : ReqAt B1 f p p' b1 c1 q1 a1 l1 (.slice x1 k1 y1) W) (r2 : ReqAt B2 g p p' b2 c2 q2 a2 l2 (.slice x2 k2 y2) W) (hB1 : Buf B1 N f W) (hB2 : Buf B2 M g W) :
    Calls Tryf.prog 10 #[.agg #[.int .u64 (c1 : Int), .int .u64 (q1 : Int), .slice a1 l1 z1, .slice x1 k1 y1], .agg #[.int .u64 (c2 : Int), .int .u64 (q2 : Int), .slice a2 l2 z2, .slice x2 k2 y2]] W fun e w' => e = .returned (.bool true) ∧ Below W.heap.size W w' := by
  obtain ⟨p0, l, k, hp0, hl, hk, hp', hle⟩ := rq_some e
  injection hp0 with hp0
  subst hp0
  have hM := h.le
  obtain rfl : l1 = l := by rw [r1.len, hl]
  obtain rfl : l2 = l1 := by rw [r2.len, r1.len, h.be32 (by omega)]
  have o1 := r1.auth
  have o2 := r2.auth
  rw [← hk] at o1
  rw [← h.be32 (p := p + 20 + l2) (by omega), ← hk, ← h.brow (by omega)] at o2
  have kk : ∀ {w : World} {b n c k : Nat} {x : Option Addr} {xs : List Value}, w.ownsRow b 44 32 (.slice x k c) n xs → k = n := fun ho => by
    rcases ho.2 with ⟨h1, h2⟩ | ⟨g, cap, cur, h1, _⟩
    · injection h1 with _ h1; omega
    · injection h1
  obtain rfl := kk o1
  obtain rfl := kk o2
  obtain rfl : c1 = c2 := by rw [r1.client, r2.client, h.be64 (by omega)]
  obtain rfl : q1 = q2 := by rw [r1.reqid, r2.reqid, h.be64 (by omega)]
  refine same_10 c1 q1 l2 z1 z2 k2 y1 y2 b1 b2 _ a1 a2 x1 x2 (num f (p + 20)) f W (by omega) (by omega) (hB1.rd r1.tx (by omega)) ?_ o1 o2
  have := hB2.rd r2.tx (show p + 20 + l2 ≤ M by omega)
  intro h0
  obtain ⟨b, o, e1, e2⟩ := this h0
  refine ⟨b, o, e1, fun m hm => ?_⟩
  rw [e2 m hm]
  unfold num
  rw [h.eq (p + 20 + m) (by omega)]

def Dec8 (D B N : Nat) (f : Nat → UInt8) (W : World) : Prop :=
  Calls Tryf.prog 8 #[.pointer (some ⟨D, 0, none⟩)] W fun e w' => ∃ u, e = .returned u ∧ ListPost D B N f (ct N f 24 (some 0)) W (.returned u) w'

theorem dec_some (F : Interp) (D B N : Nat) (f : Nat → UInt8) (W : World) (hF : F.answers W.tape) (he : Env D B N f W) (hD : W.heap[D]? = some (.cells #[.slice (some ⟨B, 0, none⟩) N N, .nilIface] 42 (0, 0))) : Dec8 D B N f W := by
  have hlt : D < W.heap.size := (Array.getElem?_eq_some_iff.1 hD).1
  have hst : St D B N (some 0) W := ⟨⟨frozen_of_row _ _ _ _ _ hD, frozen_of_row _ _ _ _ _ hD⟩, Nat.zero_le _, ⟨0, .inr rfl, by rw [cell_of_row _ _ _ _ _ _ hD]; rfl⟩, by rw [cell_of_row _ _ _ _ _ _ hD]; rfl⟩
  refine dec_8 (Post := fun e w' => ∃ u, e = .returned u ∧ ListPost D B N f (ct N f 24 (some 0)) W (.returned u) w') _ W ?_ |>.mono ?_
  · refine (requests_13 F D B N f (ct N f 24 (some 0)) W hF he hlt ?_).mono ?_
    · intro W1 hb
      have h14 : Calls Tryf.prog 14 #[.pointer (some ⟨D, 0, none⟩), .int .i64 24] W1 (CntPost D B N f 24 (some 0) W1) := count_14 F D B N 24 f (some 0) W1 (by rw [hb.tape]; exact hF) (he.grown (grown_below hb)) (hst.below hb) (by omega)
      refine h14.mono ?_
      rintro e w' ⟨r, rfl, h1, h2, h3, h4⟩
      refine ⟨r, rfl, ?_, h1, h2, h3, h4⟩
      have := he.lim
      cases hc : ct N f 24 (some 0) with
      | none => have := h3 hc; omega
      | some p =>
        obtain ⟨p0, hp0, e1, e2, e3⟩ := ct_some hc
        have h5 := h4 p hc
        rw [e1, Nat.add_sub_cancel] at h5
        rw [h5]; omega
    · rintro e w' ⟨v, n, xs, rfl, h⟩
      exact ⟨v, rfl, v, rfl, v, n, xs, rfl, h⟩
  · rintro e w' ⟨u, rfl, u', h1, h2⟩
    injection h1 with h1
    subst h1
    exact ⟨u, rfl, h2⟩
theorem dec_nil (F : Interp) (D : Nat) (f : Nat → UInt8) (W : World) (hF : F.answers W.tape) (hs : Sen W) (h1 : 1 ≠ D) (hD : W.heap[D]? = some (.cells #[.slice none 0 0, .nilIface] 42 (0, 0))) : Dec8 D (D + 1) 0 f W := by
  have hlt : D < W.heap.size := (Array.getElem?_eq_some_iff.1 hD).1
  have he : Env D (D + 1) 0 f W := ⟨fun k hk => by omega, hs, by omega, h1, by omega⟩
  have e0 : ct 0 f 24 (some 0) = none := by simp [ct]
  unfold Dec8
  rw [e0]
  refine dec_8 (Post := fun e w' => ∃ u, e = .returned u ∧ ListPost D (D + 1) 0 f none W (.returned u) w') _ W ?_ |>.mono ?_
  · refine (requests_13 F D (D + 1) 0 f none W hF he hlt ?_).mono ?_
    · intro W1 hb
      obtain ⟨t, v, hsv⟩ := (he.grown (grown_below hb)).sen
      have hD1 := (hb.block D hlt).trans hD
      have c0 : W1.cell? ⟨D, 0, none⟩ = some (.slice none 0 0) := by rw [cell_of_row _ _ _ _ _ _ hD1]; rfl
      have c1 : W1.cell? ⟨D, 1, none⟩ = some .nilIface := by rw [cell_of_row _ _ _ _ _ _ hD1]; rfl
      have hf : Fr D W1 := ⟨frozen_of_row _ _ _ _ _ hD1, frozen_of_row _ _ _ _ _ hD1⟩
      have h17 := take_short D 4 0 none 0 t v W1 c0 c1 hf hsv (by omega)
      have hst1 : St D (D + 1) 0 none _ := St.failed (t := t) (v := v) hf c0 c1
      have qn := eql_nil
      go_enter Tryf.func14, Tryf.ntmps14
      go_wp2_with (go_at_call 17; refine h17.mono ?_; rintro e w' ⟨rfl, hw⟩; obtain rfl := hw.symm)
      go_ret
      exact ⟨0, rfl, by omega, hst1, grown_set _ _ _ _, fun _ => rfl, fun p h => by cases h⟩
    · rintro e w' ⟨v, n, xs, rfl, h⟩
      exact ⟨v, rfl, v, rfl, v, n, xs, rfl, h⟩
  · rintro e w' ⟨u, rfl, u', h1, h2⟩
    injection h1 with h1
    subst h1
    exact ⟨u, rfl, h2⟩
end Go.Proofs.Qxb6608948aFmt
