/-
  The walk of the law FnWidthOfIPv4AgreesWithMapped.
-/
import Derived.Test.Qxb6608729aDoorQuad
import Derived.LoopTactic
namespace Go.Proofs.Qxb6608729aDoor
set_option linter.unusedSimpArgs false
set_option linter.unusedVariables false
open Go.RowKit Go.Stop

/-- The sixteen bytes of the IPv4-mapped form. -/
def mp (a : Nat → Int) (i : Nat) : Int := if i < 10 then 0 else if i < 12 then 255 else a (i - 12)
theorem mp_byte (a : Nat → Int) (ha : ∀ i, Byte (a i)) (i : Nat) : Byte (mp a i) := by
  unfold mp
  split
  · unfold Byte; omega
  · split
    · unfold Byte; omega
    · exact ha _
theorem hiW_mp (a : Nat → Int) : hiW (mp a) = 0 := rfl
theorem loW_mp (a : Nat → Int) : loW (mp a) = V4 (q4 a) := by
  show be8 0 0 255 255 (a 0) (a 1) (a 2) (a 3) = V4 (be4 (a 0) (a 1) (a 2) (a 3))
  unfold be8 V4 be4; omega
theorem width6_mapped (a b : Nat → Int) (p4 p6 : Addr) (w : World) (z : Zs p4 p6 w) (ha : ∀ i, Byte (a i)) (hb : ∀ i, Byte (b i)) :
    Calls Tryd.prog 20 #[.agg #[.int .u8 0, .int .u8 0, .int .u8 0, .int .u8 0, .int .u8 0, .int .u8 0, .int .u8 0, .int .u8 0, .int .u8 0, .int .u8 0, .int .u8 255, .int .u8 255, .int .u8 (a 0), .int .u8 (a 1), .int .u8 (a 2), .int .u8 (a 3)], .agg #[.int .u8 0, .int .u8 0, .int .u8 0, .int .u8 0, .int .u8 0, .int .u8 0, .int .u8 0, .int .u8 0, .int .u8 0, .int .u8 0, .int .u8 255, .int .u8 255, .int .u8 (b 0), .int .u8 (b 1), .int .u8 (b 2), .int .u8 (b 3)]] w fun e w' =>
      e = .returned (.tuple #[.int .u64 (dhi 0 (V4 (q4 b)) 0 (V4 (q4 a))), .int .u64 (dlo (V4 (q4 b)) (V4 (q4 a)))]) ∧ Below w.heap.size w w' := by
  have h := width6_any (mp a) (mp b) p4 p6 w z (mp_byte a ha) (mp_byte b hb)
  rw [hiW_mp, hiW_mp, loW_mp, loW_mp] at h
  exact h

theorem or_chain32 (b0 b1 b2 b3 : Int) (y0 : Byte b0) (y1 : Byte b1) (y2 : Byte b2) (y3 : Byte b3) :
    bits .or .u32 (bits .or .u32 (bits .or .u32 (b0 * 16777216) (b1 * 65536)) (b2 * 256)) b3 = be4 b0 b1 b2 b3 := by
  unfold Byte at *
  rw [bits_join .u32 32 (by decide) wraps_u32 24 (b0 * 16777216) (b1 * 65536) (by omega) (by omega) (by omega) (by omega) (by omega) (by omega)]
  rw [bits_join .u32 32 (by decide) wraps_u32 16 (b0 * 16777216 + b1 * 65536) (b2 * 256) (by omega) (by omega) (by omega) (by omega) (by omega) (by omega)]
  rw [bits_join .u32 32 (by decide) wraps_u32 8 (b0 * 16777216 + b1 * 65536 + b2 * 256) b3 (by omega) (by omega) (by omega) (by omega) (by omega) (by omega)]
  unfold be4; omega

set_option maxRecDepth 100000 in
set_option maxHeartbeats 2000000 in
theorem law7_any (a b : Nat → Int) (p4 p6 : Addr) (w : World) (z : Zs p4 p6 w) (ha : ∀ i, Byte (a i)) (hb : ∀ i, Byte (b i)) :
    Calls Tryd.prog 7 #[.agg #[.int .u8 (a 0), .int .u8 (a 1), .int .u8 (a 2), .int .u8 (a 3)], .agg #[.int .u8 (b 0), .int .u8 (b 1), .int .u8 (b 2), .int .u8 (b 3)]] w fun e w' => e = .returned (.bool true) ∧ Below w.heap.size w w' := by
  have hA : bits .or .u32 (bits .or .u32 (bits .or .u32 (a 0 * 16777216) (a 1 * 65536)) (a 2 * 256)) (a 3) = q4 a := or_chain32 _ _ _ _ (ha 0) (ha 1) (ha 2) (ha 3)
  have hB : bits .or .u32 (bits .or .u32 (bits .or .u32 (b 0 * 16777216) (b 1 * 65536)) (b 2 * 256)) (b 3) = q4 b := or_chain32 _ _ _ _ (hb 0) (hb 1) (hb 2) (hb 3)
  obtain ⟨l0, h0⟩ := ha 0; obtain ⟨l1, h1⟩ := ha 1; obtain ⟨l2, h2⟩ := ha 2; obtain ⟨l3, h3⟩ := ha 3
  obtain ⟨m0, k0⟩ := hb 0; obtain ⟨m1, k1⟩ := hb 1; obtain ⟨m2, k2⟩ := hb 2; obtain ⟨m3, k3⟩ := hb 3
  obtain ⟨qa0, qa1⟩ := q4_bd a ha
  obtain ⟨qb0, qb1⟩ := q4_bd b hb
  by_cases hlt : q4 b < q4 a
  · go_enter Tryd.func7, Tryd.ntmps7
    go_wp2
    go_ret
    exact ⟨rfl, by go_grown⟩
  · go_enter Tryd.func7, Tryd.ntmps7
    go_wp2
    refine wp_loop_rounds 5 ?_
    rw [rounds_succ]
    go_wp2_with fail
    rw [rounds_succ]
    go_wp2_with fail
    rw [rounds_succ]
    go_wp2_with fail
    rw [rounds_succ]
    go_wp2_with fail
    rw [rounds_succ]
    go_wp2_with fail
    refine (width4_any a b p4 p6 _ ((((z.alloc _).alloc _).alloc _).alloc _) ha hb).mono ?_
    rintro e w1 ⟨rfl, hb1⟩
    obtain ⟨hc1, hf1⟩ := bcell hb1
    have gb1 : Below w.heap.size w w1 := Below.trans (by go_grown) (hb1.mono (by go_size))
    go_wp2_with fail
    refine (width6_mapped a b p4 p6 _ (z.below gb1) ha hb).mono ?_
    rintro e w2 ⟨rfl, hb2⟩
    have gb2 : Below w.heap.size w w2 := gb1.trans (hb2.mono gb1.size)
    have e4 : dhi 0 (V4 (q4 b)) 0 (V4 (q4 a)) = 0 := by unfold dhi bor V4; rw [if_neg (by omega)]; decide
    have eD : dlo (V4 (q4 b)) (V4 (q4 a)) = q4 b - q4 a := by unfold dlo V4; omega
    go_wp2_with fail
    go_ret
    exact ⟨rfl, gb2⟩
end Go.Proofs.Qxb6608729aDoor
