/-
  The walk of zzSub16.
-/
import Derived.Test.Qxb6608729aDoorLE
namespace Go.Proofs.Qxb6608729aDoor
set_option linter.unusedSimpArgs false
set_option linter.unusedVariables false
open Go.RowKit Go.Stop

/-- Sixteen cells of the call's own. -/
def Dig (f : Nat → Int) (b : Nat) (w : World) : Prop := ∀ j, j < 16 → w.cell? ⟨b, j, none⟩ = some (.int .u8 (f j)) ∧ w.frozen? ⟨b, j, none⟩ = false
theorem Dig.drewN {f : Nat → Int} {b : Nat} {W : World} (h : Dig f b W) (n : Nat) : Dig f b (W.drewN n) := fun k hk => h k hk
theorem Dig.congr {f g : Nat → Int} {b : Nat} {W : World} (h : Dig f b W) (e : ∀ j, j < 16 → f j = g j) : Dig g b W := fun k hk => by rw [← e k hk]; exact h k hk
theorem Dig.set {f : Nat → Int} {b : Nat} {W : World} (h : Dig f b W) (k : Nat) (hk : k < 16) (v : Int) : Dig (fun j => if j = k then v else f j) b (W.setCell ⟨b, k, none⟩ (.int .u8 v)) := fun j hj => by
  refine ⟨?_, by rw [World.frozen?_setCell]; exact (h j hj).2⟩
  by_cases e : j = k
  · subst e
    simp only [if_true]
    exact World.cell?_setCell_same _ _ _ (h j hj).1
  · simp only [e, if_false]
    rw [World.cell?_setCell_other _ _ _ _ (fun h => e (by injection h with _ h2; exact h2.symm))]
    exact (h j hj).1
theorem Row16.store {x : Nat → Int} {b g k : Nat} {W : World} (h : Row16 x b W) (hg : b ≠ g) (v : Value) : Row16 x b (W.setCell ⟨g, k, none⟩ v) := fun j hj =>
  (cell_setCell_off _ _ _ _ hg).trans (h j hj)

/-- Sixteen zeros. -/
abbrev Z16 : Obj := .cells #[.int .u8 0, .int .u8 0, .int .u8 0, .int .u8 0, .int .u8 0, .int .u8 0, .int .u8 0, .int .u8 0, .int .u8 0, .int .u8 0, .int .u8 0, .int .u8 0, .int .u8 0, .int .u8 0, .int .u8 0, .int .u8 0] 37
theorem Dig.start (W : World) (g : Nat) (hg : W.heap.size = g) : Dig (fun _ => 0) g (W.alloc Z16) := fun j hj => by
  subst hg
  have h := heap_alloc_new W Z16
  refine ⟨(cell_of_row _ _ j _ _ _ h).trans ?_, frozen_of_row _ _ j _ _ h⟩
  rcases (by omega : j = 0 ∨ j = 1 ∨ j = 2 ∨ j = 3 ∨ j = 4 ∨ j = 5 ∨ j = 6 ∨ j = 7 ∨ j = 8 ∨ j = 9 ∨ j = 10 ∨ j = 11 ∨ j = 12 ∨ j = 13 ∨ j = 14 ∨ j = 15) with h | h | h | h | h | h | h | h | h | h | h | h | h | h | h | h <;> subst h <;> rfl

theorem step_neg (a b : Nat → Int) (n : Nat) (B : Int) (hn : n < 16) (hB : Hid (B = bw a b (16 - (n + 1)))) (hx : b n - a n - B < 0) : b n - a n - B + 256 = dg a b n ∧ bw a b (16 - n) = 1 := by
  have h := hB.out
  rw [show 16 - (n + 1) = 15 - n by omega] at h
  subst h
  have := dg_neg a b n (by omega) hx
  exact ⟨this.1.symm, this.2⟩
theorem step_pos (a b : Nat → Int) (n : Nat) (B : Int) (hn : n < 16) (hB : Hid (B = bw a b (16 - (n + 1)))) (hx : 0 ≤ b n - a n - B) : b n - a n - B = dg a b n ∧ bw a b (16 - n) = 0 := by
  have h := hB.out
  rw [show 16 - (n + 1) = 15 - n by omega] at h
  subst h
  have := dg_pos a b n (by omega) (by omega)
  exact ⟨this.1.symm, this.2⟩
theorem dig_step {a b : Nat → Int} {g : Nat} {W : World} {n : Nat} (h : Dig (fun j => if n + 1 ≤ j then dg a b j else 0) g W) (hn : n < 16) {v : Int} (hv : v = dg a b n) :
    Dig (fun j => if n ≤ j then dg a b j else 0) g (W.setCell ⟨g, n, none⟩ (.int .u8 v)) := by
  refine (h.set n hn v).congr fun j _ => ?_
  by_cases e : j = n
  · subst e; simp [hv]
  · by_cases e2 : n + 1 ≤ j
    · simp only [e, if_false]; rw [if_pos e2, if_pos (by omega)]
    · simp only [e, if_false]; rw [if_neg e2, if_neg (by omega)]
theorem hor (x d : Int) (h0 : 0 ≤ x) (h1 : x < 72057594037927936) (d0 : 0 ≤ d) (d1 : d ≤ 255) : bits .or .u64 (x * 256) d = x * 256 + d :=
  bits_join .u64 64 (by decide) wraps_u64 8 (x * 256) d (by omega) (by omega) (by omega) d0 (by omega) (by omega)
theorem seg_7 (x : Nat → Int) (o : Nat) (h : ∀ i, i < 16 → 0 ≤ x i ∧ x i ≤ 255) (n : Nat) (hn : n ≤ 7) (ho : o + n ≤ 16) : 0 ≤ seg x o n ∧ seg x o n < 72057594037927936 := by
  have := seg_bd x o h n ho
  refine ⟨this.1, Int.lt_of_lt_of_le this.2 ?_⟩
  rcases (by omega : n = 0 ∨ n = 1 ∨ n = 2 ∨ n = 3 ∨ n = 4 ∨ n = 5 ∨ n = 6 ∨ n = 7) with h | h | h | h | h | h | h | h <;> subst h <;> decide

set_option maxHeartbeats 2000000 in
theorem sub16_opaque (lb la : List Value) (a b : Nat → Int) (w : World) (ha : ∀ i, Byte (a i)) (hb : ∀ i, Byte (b i)) (xb : ∀ k, k < 16 → lb[k]? = some (.int .u8 (b k))) (xa : ∀ k, k < 16 → la[k]? = some (.int .u8 (a k))) :
    Calls Tryd.prog 21 #[.agg lb.toArray, .agg la.toArray] w fun e w' => e = .returned (.tuple #[.int .u64 (seg (dg a b) 0 8), .int .u64 (seg (dg a b) 8 8)]) ∧ Below w.heap.size w w' := by
  have cB : Row16 b w.heap.size (((w.alloc (.cells lb.toArray 37)).alloc (.cells la.toArray 37)).alloc Z16) := Row16.below (W := (w.alloc (.cells lb.toArray 37)).alloc (.cells la.toArray 37)) (fun k hk =>
    (cell_of_row _ _ k _ _ _ (heap_alloc2_old w _ _)).trans (by simpa using xb k hk)) ((Below.refl _ _).alloc (Nat.le_refl _) _)
  have cA : Row16 a (w.heap.size + 1) (((w.alloc (.cells lb.toArray 37)).alloc (.cells la.toArray 37)).alloc Z16) := Row16.below (W := (w.alloc (.cells lb.toArray 37)).alloc (.cells la.toArray 37)) (fun k hk =>
    (cell_of_row _ _ k _ _ _ (heap_alloc2_new w _ _)).trans (by simpa using xa k hk)) ((Below.refl _ _).alloc (Nat.le_refl _) _)
  have cD : Dig (fun _ => 0) (w.heap.size + 1 + 1) (((w.alloc (.cells lb.toArray 37)).alloc (.cells la.toArray 37)).alloc Z16) := Dig.start _ _ (by simp)
  have g0 : Below w.heap.size w (((w.alloc (.cells lb.toArray 37)).alloc (.cells la.toArray 37)).alloc Z16) := by go_grown
  go_enter Tryd.func21, Tryd.ntmps21
  go_wp2
  go_loopw [7, 8] (fun br i wr => ∃ (k : Nat) (B : Int), k ≤ 16 ∧ i = .int .i64 ((k : Int) - 1) ∧ br = .int .i64 B ∧ 0 ≤ B ∧ B ≤ 1 ∧ Hid (B = bw a b (16 - k)) ∧ Row16 b w.heap.size wr ∧ Row16 a (w.heap.size + 1) wr ∧
      Dig (fun j => if k ≤ j then dg a b j else 0) (w.heap.size + 1 + 1) wr ∧ Below w.heap.size w wr) (fun _ i _ => (intOf i + 1).toNat)
  case atStart => exact ⟨16, 0, by omega, rfl, rfl, by omega, by omega, rfl, cB, cA, cD.congr (fun j hj => by rw [if_neg (by omega)]), g0⟩
  case round =>
    obtain ⟨k, B, hk, rfl, rfl, hB0, hB1, hBw, rB, rA, rD, hbl⟩ := hrel
    clear cA cB cD g0 xa xb
    rcases k with _ | n
    · clear rA rB
      have hD : Dig (dg a b) (w.heap.size + 1 + 1) wr := rD.congr (fun j _ => if_pos (Nat.zero_le j))
      clear rD hBw
      have hby := fun i (hi : i < 16) => dg_byte a b ha hb i (by omega)
      have en : ((0 : Nat) : Int) - 1 = -1 := rfl
      simp only [en]
      go_wp2
      go_loop [10, 12] (fun h i => ∃ k : Nat, k ≤ 8 ∧ i = .int .i64 k ∧ h = .int .u64 (seg (dg a b) 0 k)) (fun _ i => 8 - (intOf i).toNat)
      case atStart => exact ⟨0, by omega, rfl, rfl⟩
      case round =>
        obtain ⟨k, hk, rfl, rfl⟩ := hrel
        by_cases hlt : k < 8
        · have hlt' : (k : Int) < 8 := by omega
          have vD := (hD k (by omega)).1
          obtain ⟨d0, d1⟩ := hby k (by omega)
          obtain ⟨s0, s1⟩ := seg_7 (dg a b) 0 hby k (by omega) (by omega)
          clear hby
          go_wp2
          go_round
          case rel => exact ⟨k + 1, by omega, by go_num, by rw [hor _ _ s0 s1 d0 d1]; simp [seg]⟩
          case measure => simp [intOf]; omega
        · have hk8 : k = 8 := by omega
          subst hk8
          go_wp2
          go_loop [11, 13] (fun h i => ∃ k : Nat, k ≤ 8 ∧ i = .int .i64 ((8 + k : Nat) : Int) ∧ h = .int .u64 (seg (dg a b) 8 k)) (fun _ i => 16 - (intOf i).toNat)
          case atStart => exact ⟨0, by omega, rfl, rfl⟩
          case round =>
            obtain ⟨k, hk, rfl, rfl⟩ := hrel
            by_cases hlt : k < 8
            · obtain ⟨m, hm⟩ : ∃ m, m = 8 + k := ⟨_, rfl⟩
              have HM : Hid (m = 8 + k) := hm
              have hm16 : m < 16 := by omega
              have hm16' : (m : Int) < 16 := by omega
              have vD := (hD m (by omega)).1
              obtain ⟨d0, d1⟩ := hby m (by omega)
              obtain ⟨s0, s1⟩ := seg_7 (dg a b) 8 hby k (by omega) (by omega)
              simp only [← hm]
              clear hby hm
              go_wp2
              go_round
              case rel => exact ⟨k + 1, by omega, by rw [show (8 + (k + 1)) = m + 1 by have := HM.out; omega]; go_num, by rw [hor _ _ s0 s1 d0 d1, HM.out]; simp [seg]⟩
              case measure => have := HM.out; simp [intOf]; omega
            · have hk8 : k = 8 := by omega
              subst hk8
              go_wp2
              go_ret2
              exact ⟨rfl, hbl⟩
    · have en : ((n + 1 : Nat) : Int) - 1 = (n : Int) := by omega
      simp only [en]
      have hn : n < 16 := by omega
      have hn' : (n : Int) < 16 := by omega
      have vB := rB n hn
      have vA := rA n hn
      obtain ⟨vD, fD⟩ := rD n hn
      obtain ⟨a0, a1⟩ := ha n
      obtain ⟨b0, b1⟩ := hb n
      by_cases hx : b n - a n - B < 0
      · go_wp2
        go_quiet (fail)
        go_wp2
        go_roundw
        case rel => exact ⟨n, 1, by omega, rfl, rfl, by omega, by omega, (step_neg a b n B hn hBw hx).2.symm, (rB.drewN _).store (by omega) _, (rA.drewN _).store (by omega) _, dig_step (rD.drewN _) hn (step_neg a b n B hn hBw hx).1, (below_dN hbl).setCell (by show _ ≤ w.heap.size + 1 + 1; omega) _⟩
        case measure => simp [intOf]
      · go_wp2
        go_quiet (fail)
        go_wp2
        go_roundw
        case rel => exact ⟨n, 0, by omega, rfl, rfl, by omega, by omega, (step_pos a b n B hn hBw hx).2.symm, (rB.drewN _).store (by omega) _, (rA.drewN _).store (by omega) _, dig_step (rD.drewN _) hn (step_pos a b n B hn hBw hx).1, (below_dN hbl).setCell (by show _ ≤ w.heap.size + 1 + 1; omega) _⟩
        case measure => simp [intOf]
end Go.Proofs.Qxb6608729aDoor
