/-
  Walks over net/netip's IPv4 half and the project's number4: an IPv4 address as a number.
-/
import Derived.Test.Qxb6608729aDoorMinus
namespace Go.Proofs.Qxb6608729aDoor
set_option linter.unusedSimpArgs false
set_option linter.unusedVariables false
open Go.RowKit Go.Stop

/-- The number that four bytes spell, the greatest first. -/
def be4 (b0 b1 b2 b3 : Int) : Int := b3 + b2 * 256 + b1 * 65536 + b0 * 16777216
def x0 (v : Int) : Int := v / 16777216
def x1 (v : Int) : Int := v / 65536 % 256
def x2 (v : Int) : Int := v / 256 % 256
def x3 (v : Int) : Int := v % 256
theorem x0_byte (v : Int) (h0 : 0 ≤ v) (h : v < 4294967296) : Byte (x0 v) := by unfold x0 Byte; omega
theorem x1_byte (v : Int) : Byte (x1 v) := by unfold x1 Byte; omega
theorem x2_byte (v : Int) : Byte (x2 v) := by unfold x2 Byte; omega
theorem x3_byte (v : Int) : Byte (x3 v) := by unfold x3 Byte; omega
theorem be4_x (v : Int) : be4 (x0 v) (x1 v) (x2 v) (x3 v) = v := by unfold be4 x0 x1 x2 x3; omega
theorem be4_bd {b0 b1 b2 b3 : Int} (y0 : Byte b0) (y1 : Byte b1) (y2 : Byte b2) (y3 : Byte b3) : 0 ≤ be4 b0 b1 b2 b3 ∧ be4 b0 b1 b2 b3 < 4294967296 := by
  unfold Byte at *; unfold be4; omega

set_option maxHeartbeats 1000000 in
/-- binary.BigEndian.Uint32. -/
theorem uint32_any (g o n c : Nat) (b0 b1 b2 b3 : Int) (w : World) (hn : 4 ≤ n) (y0 : Byte b0) (y1 : Byte b1) (y2 : Byte b2) (y3 : Byte b3)
    (c0 : w.cell? ⟨g, o, none⟩ = some (.int .u8 b0)) (c1 : w.cell? ⟨g, o + 1, none⟩ = some (.int .u8 b1)) (c2 : w.cell? ⟨g, o + 2, none⟩ = some (.int .u8 b2)) (c3 : w.cell? ⟨g, o + 3, none⟩ = some (.int .u8 b3)) :
    Calls Tryd.prog 71 #[.agg #[], .slice (some ⟨g, o, none⟩) n c] w fun e w' => e = .returned (.int .u32 (be4 b0 b1 b2 b3)) ∧ ∃ k, w' = (w.alloc (.cells #[] 115)).drewN k := by
  obtain ⟨l0, h0⟩ := y0; obtain ⟨l1, h1⟩ := y1; obtain ⟨l2, h2⟩ := y2; obtain ⟨l3, h3⟩ := y3
  have d0 := cell?_alloc_old (.cells #[] 115) c0
  have d1 := cell?_alloc_old (.cells #[] 115) c1
  have d2 := cell?_alloc_old (.cells #[] 115) c2
  have d3 := cell?_alloc_old (.cells #[] 115) c3
  have q0 : 0 < n := by omega
  have q1 : (1 : Int) < (n : Int) := by omega
  have q2 : (2 : Int) < (n : Int) := by omega
  have q3 : (3 : Int) < (n : Int) := by omega
  go_enter Tryd.func71, Tryd.ntmps71
  go_wp2
  go_quiet (fail)
  go_wp2
  go_ret
  refine ⟨?_, _, rfl⟩
  simp (disch := omega) only [u32_or8, u32_or16, u32_or24]
  rfl

/-- Four cells laid one behind the other. -/
def put4 (w : World) (g o : Nat) (v : Int) : World :=
  (((w.setCell ⟨g, o, none⟩ (.int .u8 (x0 v))).setCell ⟨g, o + 1, none⟩ (.int .u8 (x1 v))).setCell ⟨g, o + 2, none⟩ (.int .u8 (x2 v))).setCell ⟨g, o + 3, none⟩ (.int .u8 (x3 v))
set_option maxHeartbeats 1000000 in
/-- internal/byteorder.BEPutUint32. -/
theorem put32_any (g o n c : Nat) (v : Int) (hv0 : 0 ≤ v) (hv : v < 4294967296) (u0 u1 u2 u3 : Value) (w : World) (hn : 4 ≤ n)
    (c0 : w.cell? ⟨g, o, none⟩ = some u0) (c1 : w.cell? ⟨g, o + 1, none⟩ = some u1) (c2 : w.cell? ⟨g, o + 2, none⟩ = some u2) (c3 : w.cell? ⟨g, o + 3, none⟩ = some u3)
    (f0 : w.frozen? ⟨g, o, none⟩ = false) (f1 : w.frozen? ⟨g, o + 1, none⟩ = false) (f2 : w.frozen? ⟨g, o + 2, none⟩ = false) (f3 : w.frozen? ⟨g, o + 3, none⟩ = false) :
    Calls Tryd.prog 83 #[.slice (some ⟨g, o, none⟩) n c, .int .u32 v] w fun e w' => e = .returned (.tuple #[]) ∧ w' = put4 w g o v := by
  have q0 : 0 < n := by omega
  have q1 : (1 : Int) < (n : Int) := by omega
  have q2 : (2 : Int) < (n : Int) := by omega
  have q3 : (3 : Int) < (n : Int) := by omega
  go_enter Tryd.func83, Tryd.ntmps83
  go_wp2
  go_end0
  exact ⟨rfl, rfl⟩

set_option maxHeartbeats 1000000 in
/-- (netip.Addr).As4 at an IPv4 address. -/
theorem as4_four (lo v : Int) (p4 p6 : Addr) (w : World) (z : Zs p4 p6 w) (l0 : 0 ≤ lo) (l1 : lo < 18446744073709551616) (hm : IntKind.u32.wrap lo = v) (v0 : 0 ≤ v) (v1 : v < 4294967296) :
    Calls Tryd.prog 70 #[.agg #[.int .u64 0, .int .u64 lo, .pointer (some p4)]] w fun e w' => e = .returned (.agg #[.int .u8 (x0 v), .int .u8 (x1 v), .int .u8 (x2 v), .int .u8 (x3 v)]) ∧
      Below w.heap.size w w' := by
  have z1 := fun o o' => ((z.alloc o).alloc o').c4
  have z2 := fun w => eq66_same p4 w 9998
  go_enter Tryd.func70, Tryd.ntmps70
  go_wp2
  go_region_with (go_at_call 83; refine (put32_any (w.heap.size + 1) 0 4 4 v v0 v1 (.int .u8 0) (.int .u8 0) (.int .u8 0) (.int .u8 0) _ (by omega) (by simp) (by simp) (by simp) (by simp) (by simp) (by simp) (by simp) (by simp) ).mono ?_; rintro e w' ⟨rfl, rfl⟩; simp only [put4])
  all_goals
    go_wp2
    refine bodyPost_ret (v := .agg #[.int .u8 (x0 v), .int .u8 (x1 v), .int .u8 (x2 v), .int .u8 (x3 v)]) (by simp [results, Tryd.results70, go_sem]) rfl ⟨rfl, ?_⟩
    (repeat' (first | (with_reducible exact Below.refl _ _) | (with_reducible refine Below.alloc ?_ ?_ _) | (with_reducible refine Below.drew ?_) | (with_reducible refine below_dN ?_) | (with_reducible refine Below.setCell ?_ ?_ _) | go_size))

theorem old2 {W : World} {a : Addr} {v : Value} (h : W.cell? a = some v) (o1 o2 : Obj) : ((W.alloc o1).alloc o2).cell? a = some v := cell?_alloc_old o2 (cell?_alloc_old o1 h)
theorem oldf2 {W : World} {a : Addr} (h : W.frozen? a = false) (hl : a.block < W.heap.size) (o1 o2 : Obj) : ((W.alloc o1).alloc o2).frozen? a = false := by
  have hb := ((Below.refl W.heap.size W).alloc (Nat.le_refl _) o1).alloc (by simp) o2
  exact (hb.frozen (p := a) hl).trans h
theorem or4 (v : Int) (v0 : 0 ≤ v) (v1 : v < 4294967296) : bits .or .u64 281470681743360 v = 281470681743360 + v :=
  bits_join .u64 64 (by decide) wraps_u64 32 281470681743360 v (by omega) (by omega) (by omega) v0 (by omega) (by omega)

set_option maxHeartbeats 1000000 in
theorem number4_any (lo v : Int) (p4 p6 : Addr) (w : World) (z : Zs p4 p6 w) (l0 : 0 ≤ lo) (l1 : lo < 18446744073709551616) (hm : IntKind.u32.wrap lo = v) (v0 : 0 ≤ v) (v1 : v < 4294967296) (hl : 281470681743360 + v = lo) :
    Calls Tryd.prog 58 #[.agg #[.int .u64 0, .int .u64 lo, .pointer (some p4)]] w fun e w' => e = .returned (.agg #[.int .u64 0, .int .u64 lo]) ∧ Below w.heap.size w w' := by
  have b0 := x0_byte v v0 v1
  have b1 := x1_byte v
  have b2 := x2_byte v
  have b3 := x3_byte v
  have ho := or4 v v0 v1
  have hwv : IntKind.u64.wrap v = v := u64_wrap_id v v0 (by omega)
  go_enter Tryd.func58, Tryd.ntmps58
  go_wp2_with (go_at_call 70; refine (as4_four lo v p4 p6 _ ((z.alloc _).alloc _) l0 l1 hm v0 v1).mono ?_; rintro e w1 ⟨rfl, hb1⟩; obtain ⟨hc1, hf1⟩ := bcell hb1; have hz1 : w.heap.size + 1 < w1.heap.size := Nat.lt_of_lt_of_le (by go_size) hb1.size)
  have e0 : w1.cell? ⟨w.heap.size + 1, 0, none⟩ = some (.int .u64 0) := by rw [hc1 _ _ (by simp)]; simp [go_sem]
  have e1 : w1.cell? ⟨w.heap.size + 1, 1, none⟩ = some (.int .u64 0) := by rw [hc1 _ _ (by simp)]; simp [go_sem]
  have g0 : w1.frozen? ⟨w.heap.size + 1, 0, none⟩ = false := by rw [hf1 _ _ (by simp)]; simp [go_sem]
  have g1 : w1.frozen? ⟨w.heap.size + 1, 1, none⟩ = false := by rw [hf1 _ _ (by simp)]; simp [go_sem]
  have E0 := fun o1 o2 => old2 e0 o1 o2
  have E1 := fun o1 o2 => old2 e1 o1 o2
  have G0 := fun o1 o2 => oldf2 g0 (lt_of_cell e0) o1 o2
  have G1 := fun o1 o2 => oldf2 g1 (lt_of_cell e1) o1 o2
  have gb1 : Below w.heap.size w w1 := Below.trans (by go_grown) (hb1.mono (by go_size))
  go_region_with (go_at_call 71; refine (uint32_any w1.heap.size 0 4 4 (x0 v) (x1 v) (x2 v) (x3 v) _ (by omega) b0 b1 b2 b3 (by simp [go_sem]) (by simp [go_sem]) (by simp [go_sem]) (by simp [go_sem]) ).mono ?_; rintro e w' ⟨he, k, rfl⟩; rw [be4_x] at he; subst he)
  all_goals
    go_wp2
    refine bodyPost_ret (v := .agg #[.int .u64 0, .int .u64 lo]) (by simp [results, Tryd.results58, go_sem, E0, E1, hwv, ho, hl]) rfl ⟨rfl, ?_⟩
    (repeat' (first | (with_reducible exact Below.refl _ _) | (with_reducible refine Below.alloc ?_ ?_ _) | (with_reducible refine Below.drew ?_) | (with_reducible refine below_dN ?_) | (with_reducible refine Below.setCell ?_ ?_ _) | (with_reducible assumption) | go_size))

set_option maxHeartbeats 1000000 in
theorem numberOf_four (lo v : Int) (p4 p6 : Addr) (w : World) (z : Zs p4 p6 w) (l0 : 0 ≤ lo) (l1 : lo < 18446744073709551616) (hm : IntKind.u32.wrap lo = v) (v0 : 0 ≤ v) (v1 : v < 4294967296) (hl : 281470681743360 + v = lo) :
    Calls Tryd.prog 39 #[.agg #[.int .u64 0, .int .u64 lo, .pointer (some p4)]] w fun e w' => e = .returned (.agg #[.int .u64 0, .int .u64 lo]) ∧ Below w.heap.size w w' := by
  have hm' : Hid (IntKind.u32.wrap lo = v) := hm
  have hl' : Hid (281470681743360 + v = lo) := hl
  clear hm hl
  go_enter Tryd.func39, Tryd.ntmps39
  go_wp2_with (first
    | (go_at_call 57; refine (is4_four 0 lo p4 p6 _ ((z.alloc _).alloc _)).mono ?_; rintro e w' ⟨rfl, rfl⟩)
    | (go_at_call 58; refine (number4_any lo v p4 p6 _ (((z.alloc _).alloc _).alloc _) l0 l1 hm'.out v0 v1 hl'.out).mono ?_; rintro e w1 ⟨rfl, hb⟩; obtain ⟨hc, hf⟩ := bcell hb))
  refine bodyPost_ret (v := .agg #[.int .u64 0, .int .u64 lo]) (by simp [results, Tryd.results39, go_sem, hc]) rfl ⟨rfl, ?_⟩
  refine ((Below.trans ?_ (hb.mono (by simp; omega))).setCell (by simp) _).setCell (by simp) _
  go_grown

/-- The number of an IPv4 address. -/
def V4 (v : Int) : Int := 281470681743360 + v
theorem V4_word {v : Int} (v0 : 0 ≤ v) (v1 : v < 4294967296) : Word (V4 v) := by unfold V4 Word; omega
theorem V4_low {v : Int} (v0 : 0 ≤ v) (v1 : v < 4294967296) : IntKind.u32.wrap (V4 v) = v := by rw [IntKind.wrap_u32]; unfold V4; omega
theorem numberOf_v4 (v : Int) (p4 p6 : Addr) (w : World) (z : Zs p4 p6 w) (v0 : 0 ≤ v) (v1 : v < 4294967296) :
    Calls Tryd.prog 39 #[.agg #[.int .u64 0, .int .u64 (V4 v), .pointer (some p4)]] w fun e w' => e = .returned (.agg #[.int .u64 0, .int .u64 (V4 v)]) ∧ Below w.heap.size w w' :=
  numberOf_four (V4 v) v p4 p6 w z (V4_word v0 v1).1 (V4_word v0 v1).2 (V4_low v0 v1) v0 v1 rfl

set_option maxHeartbeats 1000000 in
theorem widthOf_four (x y : Int) (p4 p6 : Addr) (w : World) (z : Zs p4 p6 w) (x1 : 0 ≤ x) (x2 : x < 4294967296) (y1 : 0 ≤ y) (y2 : y < 4294967296) :
    Calls Tryd.prog 27 #[.agg #[.int .u64 0, .int .u64 (V4 x), .pointer (some p4)], .agg #[.int .u64 0, .int .u64 (V4 y), .pointer (some p4)]] w fun e w' =>
      e = .returned (.agg #[.int .u64 (dhi 0 (V4 y) 0 (V4 x)), .int .u64 (dlo (V4 y) (V4 x))]) ∧ Below w.heap.size w w' := by
  have wx := V4_word x1 x2
  have wy := V4_word y1 y2
  go_enter Tryd.func27, Tryd.ntmps27
  go_wp2
  go_region_with (first
    | (go_at_call_of 39 y; refine (numberOf_v4 y p4 p6 _ ?_ y1 y2).mono ?_; exact (((z.alloc _).alloc _).alloc _).drew; rintro e w1 ⟨rfl, hb1⟩; obtain ⟨hc1, hf1⟩ := bcell hb1; have hz1 : w.heap.size + 1 + 1 < w1.heap.size := Nat.lt_of_lt_of_le (by go_size) hb1.size)
    | (go_at_call_of 39 x; refine (numberOf_v4 x p4 p6 _ ?_ x1 x2).mono ?_; exact ((((z.alloc _).alloc _).alloc _).drew).below hb1; rintro e w2 ⟨rfl, hb2⟩; obtain ⟨hc2, hf2⟩ := bcell hb2; have hz2 : w.heap.size + 1 + 1 < w2.heap.size := by (have := hb2.size; omega))
    | (go_at_call 40; refine (minus_any 0 (V4 y) 0 (V4 x) _ (by decide) wy.1 (by decide) (by decide) wx.1 wx.2).mono ?_; rintro e w3 ⟨rfl, hb3⟩; obtain ⟨hc3, hf3⟩ := bcell hb3))
  all_goals
    go_wp2
    refine bodyPost_ret (v := .agg #[.int .u64 (dhi 0 (V4 y) 0 (V4 x)), .int .u64 (dlo (V4 y) (V4 x))]) (by simp [results, Tryd.results27, go_sem, hc1, hc2, hc3, hz1, hz2]) rfl ⟨rfl, ?_⟩
    have g1 := hb1.mono (B' := w.heap.size) (by simp; omega)
    refine (((Below.trans ?_ g1).trans ((hb2.mono (by omega)).trans (hb3.mono (by omega)))).setCell (by simp; omega) _).setCell (by simp; omega) _
    go_grown
end Go.Proofs.Qxb6608729aDoor
