/-
  FnSlotLeafRenumbering: which blocks the law speaks of (zzSlotDomain).
-/
import Derived.Test.Qxb6608729aDoorSlotB
namespace Go.Proofs.Qxb6608729aDoor
set_option linter.unusedSimpArgs false
set_option linter.unusedVariables false
open Go.RowKit Go.Stop

/-- The lengths agree, the runs lie within them, and at most 64 bits are left. -/
def Fits (n1 n2 n3 : Nat) (i j f : Int) : Prop := n1 = n3 ∧ n2 = n3 ∧ 0 ≤ i ∧ i < j ∧ j ≤ (n3 : Int) ∧ f ≤ 64

set_option maxHeartbeats 1000000 in
theorem domain_no (a1 a2 a3 : Option Addr) (n1 n2 n3 m1 m2 m3 : Nat) (v4 : Bool) (i j h f : Int) (w : World) (l3 : n3 ≤ 32768) (hno : ¬ Fits n1 n2 n3 i j f) :
    Calls Tryd.prog 16 #[.slice a1 n1 m1, .slice a2 n2 m2, .slice a3 n3 m3, .bool v4, .int .i64 i, .int .i64 j, .int .u64 h, .int .u64 f] w fun e w' => e = .returned (.bool false) ∧ w' = w := by
  by_cases g1 : n1 = n3
  · by_cases g2 : n2 = n3
    · by_cases g3 : i < 0
      · subst g1; subst g2
        go_enter Tryd.func16, Tryd.ntmps16
        go_wp2
        go_ret
        exact ⟨rfl, rfl⟩
      · by_cases g4 : j ≤ i
        · subst g1; subst g2
          go_enter Tryd.func16, Tryd.ntmps16
          go_wp2
          go_ret
          exact ⟨rfl, rfl⟩
        · by_cases g5 : (n3 : Int) < j
          · subst g1; subst g2
            go_enter Tryd.func16, Tryd.ntmps16
            go_wp2
            go_ret
            exact ⟨rfl, rfl⟩
          · have g6 : 64 < f := by
              rcases Int.lt_or_le 64 f with h | h
              · exact h
              · exact absurd ⟨g1, g2, by omega, by omega, by omega, h⟩ hno
            subst g1; subst g2
            clear hno
            go_enter Tryd.func16, Tryd.ntmps16
            go_wp2
            go_ret
            exact ⟨rfl, rfl⟩
    · have e2 : ((n2 : Int) != (n3 : Int)) = true := by simp; omega
      have e1 : ((n1 : Int) != (n3 : Int)) = false := by simp; omega
      clear hno
      go_enter Tryd.func16, Tryd.ntmps16
      go_wp2
      go_ret
      exact ⟨rfl, rfl⟩
  · have e1 : ((n1 : Int) != (n3 : Int)) = true := by simp; omega
    clear hno
    go_enter Tryd.func16, Tryd.ntmps16
    go_wp2
    go_ret
    exact ⟨rfl, rfl⟩

set_option maxHeartbeats 1000000 in
theorem domain_one (a1 a2 a3 : Option Addr) (n m1 m2 m3 : Nat) (v4 : Bool) (i : Nat) (h f : Int) (w : World) (l3 : n ≤ 32768) (hj : i + 1 ≤ n) (hf : f ≤ 64) :
    Calls Tryd.prog 16 #[.slice a1 n m1, .slice a2 n m2, .slice a3 n m3, .bool v4, .int .i64 i, .int .i64 ((i : Int) + 1), .int .u64 h, .int .u64 f] w fun e w' => e = .returned (.bool true) ∧ w' = w := by
  have e1 : (((i : Int) + 1 - (i : Int)) == 1) = true := by simp; omega
  go_enter Tryd.func16, Tryd.ntmps16
  go_wp2
  go_ret
  exact ⟨rfl, rfl⟩

set_option maxHeartbeats 1000000 in
theorem domain_bad (a1 a2 a3 : Option Addr) (n m1 m2 m3 : Nat) (v4 : Bool) (i j : Nat) (h f : Int) (w : World) (l3 : n ≤ 32768) (hij : i + 1 < j) (hj : j ≤ n) (hf0 : 0 ≤ f) (hf : f ≤ 64) (hb : f ≠ 0 ∨ v4 = true) :
    Calls Tryd.prog 16 #[.slice a1 n m1, .slice a2 n m2, .slice a3 n m3, .bool v4, .int .i64 i, .int .i64 j, .int .u64 h, .int .u64 f] w fun e w' => e = .returned (.bool false) ∧ w' = w := by
  have e1 : (((j : Int) - (i : Int)) == 1) = false := by simp; omega
  by_cases g : f = 0
  · subst g
    have : v4 = true := by simpa using hb
    subst this
    clear hb
    go_enter Tryd.func16, Tryd.ntmps16
    go_wp2
    go_ret
    exact ⟨rfl, rfl⟩
  · have g' : (f != 0) = true := by simp [g]
    clear hb
    go_enter Tryd.func16, Tryd.ntmps16
    go_wp2
    go_ret
    exact ⟨rfl, rfl⟩

/-- The two loops of zzSlotDomain, told once: whatever they answer, nothing has turned but the count of draws. -/
def Told (w : World) (e : Ending) (w' : World) : Prop := ∃ r k, e = .returned (.bool r) ∧ w' = w.drewN k

set_option maxHeartbeats 2000000 in
theorem domain_many (b1 o1 c1 b2 o2 c2 n m3 : Nat) (a3 : Option Addr) (H L : Nat → Int) (i j : Nat) (h : Int) (w : World) (l3 : n ≤ 32768) (hij : i + 1 < j) (hj : j ≤ n) (x1 : Ints .u64 b1 o1 n H w) (x2 : Ints .u64 b2 o2 n L w) :
    Calls Tryd.prog 16 #[.slice (some ⟨b1, o1, none⟩) n c1, .slice (some ⟨b2, o2, none⟩) n c2, .slice a3 n m3, .bool false, .int .i64 i, .int .i64 j, .int .u64 h, .int .u64 0] w fun e w' => Told w e w' := by
  have e1 : (((j : Int) - (i : Int)) == 1) = false := by simp; omega
  have hin : (i : Int) < (n : Int) := by omega
  have hin1 : (i : Int) + 1 < (n : Int) := by omega
  have y1 := x1 i (by omega)
  have y2 := x2 i (by omega)
  have y3 := x2 (i + 1) (by omega)
  have y4 := y3
  rw [← Nat.add_assoc] at y4
  by_cases a : H i < h
  · have a' : decide (H i < h) = true := by simp [a]
    by_cases d : L (i + 1) = 0
    · have d' : (L (i + 1) == 0) = true := by simp [d]
      clear d
      go_enter Tryd.func16, Tryd.ntmps16
      go_wp2
      go_ret
      exact ⟨_, 0, rfl, rfl⟩
    · have d' : (L (i + 1) == 0) = false := by simp [d]
      go_enter Tryd.func16, Tryd.ntmps16
      go_wp2
      go_loopw [18] (fun t wr => ∃ k q : Nat, i ≤ k ∧ k < j ∧ t = .int .i64 k ∧ wr = w.drewN q) (fun t _ => j - (intOf t).toNat)
      case atStart => exact ⟨i, 0, by omega, by omega, rfl, rfl⟩
      case round =>
        obtain ⟨k, q, hk1, hk2, rfl, hq⟩ := hrel
        have X1 : Ints .u64 b1 o1 n H wr := by rw [hq]; exact x1
        have X2 : Ints .u64 b2 o2 n L wr := by rw [hq]; exact x2
        have HQ : Hid (wr = w.drewN q) := hq
        clear hq
        by_cases hk : k + 1 < j
        · have hk' : (k : Int) + 1 < (j : Int) := by omega
          have hkn : (k : Int) < (n : Int) := by omega
          have hkn1 : (k : Int) + 1 < (n : Int) := by omega
          obtain ⟨k1, ek⟩ : ∃ k1 : Nat, k1 = k + 1 := ⟨_, rfl⟩
          have hwk : IntKind.i64.wrap ((k : Int) + 1) = (k1 : Int) := by rw [IntKind.wrap_i64]; omega
          have hkn2 : (k1 : Int) < (n : Int) := by omega
          have hkj1 : (k1 : Int) < (j : Int) := by omega
          have z1 := X1 k (by omega)
          have z2 := X2 k (by omega)
          have z3 := X1 k1 (by omega)
          have z4 := X2 k1 (by omega)
          have EK : Hid (k1 = k + 1) := ek
          clear ek
          have hsl := fun w => startLess_any (H k) (L k) (H k1) (L k1) w
          rcases hs : slB (H k) (L k) (H k1) (L k1) with _ | _
          · rw [hs] at hsl
            clear hs
            go_wp2
            go_quiet ((go_at_call 25; exact Calls.quiet_of_same (hsl _)))
            go_wp2
            go_ret
            exact ⟨_, _, rfl, by rw [HQ.out]; exact World.drewN_drewN _ _ _⟩
          · rw [hs] at hsl
            clear hs
            go_wp2
            go_quiet ((go_at_call 25; exact Calls.quiet_of_same (hsl _)))
            go_wp2
            go_roundw
            case rel => exact ⟨k1, _, by have := EK.out; omega, by have := EK.out; omega, rfl, by rw [HQ.out]; exact World.drewN_drewN _ _ _⟩
            case measure => have := EK.out; simp [intOf]; omega
        · have hkj : ¬ (k : Int) + 1 < (j : Int) := by omega
          go_wp2
          go_loop [19] (fun t => ∃ m : Nat, i + 1 ≤ m ∧ m ≤ j ∧ t = .int .i64 m) (fun t => j - (intOf t).toNat)
          case atStart => exact ⟨i + 1, by omega, by omega, by go_num⟩
          case round =>
            obtain ⟨m, hm1, hm2, rfl⟩ := hrel
            by_cases hm : m < j
            · have hm' : (m : Int) < (j : Int) := by omega
              have hmn : (m : Int) < (n : Int) := by omega
              have z1 := X1 m (by omega)
              by_cases hs : H m = h
              · have hs' : (H m != h) = false := by simp [hs]
                clear hs
                go_wp2
                go_round
                case rel => exact ⟨m + 1, by omega, by omega, by go_num⟩
                case measure => simp [intOf]; omega
              · have hs' : (H m != h) = true := by simp [hs]
                go_wp2
                go_ret
                exact ⟨_, _, rfl, HQ.out⟩
            · have hm' : ¬ (m : Int) < (j : Int) := by omega
              go_wp2
              go_ret
              exact ⟨_, _, rfl, HQ.out⟩
  · have a' : decide (H i < h) = false := by simp; omega
    by_cases b : H i = h
    · have b' : (H i == h) = true := by simp [b]
      clear b
      by_cases c : L i = 0
      · have c' : (L i == 0) = true := by simp [c]
        clear c
        by_cases d : L (i + 1) = 0
        · have d' : (L (i + 1) == 0) = true := by simp [d]
          clear d
          go_enter Tryd.func16, Tryd.ntmps16
          go_wp2
          go_ret
          exact ⟨_, 0, rfl, rfl⟩
        · have d' : (L (i + 1) == 0) = false := by simp [d]
          go_enter Tryd.func16, Tryd.ntmps16
          go_wp2
          go_loopw [18] (fun t wr => ∃ k q : Nat, i ≤ k ∧ k < j ∧ t = .int .i64 k ∧ wr = w.drewN q) (fun t _ => j - (intOf t).toNat)
          case atStart => exact ⟨i, 0, by omega, by omega, rfl, rfl⟩
          case round =>
            obtain ⟨k, q, hk1, hk2, rfl, hq⟩ := hrel
            have X1 : Ints .u64 b1 o1 n H wr := by rw [hq]; exact x1
            have X2 : Ints .u64 b2 o2 n L wr := by rw [hq]; exact x2
            have HQ : Hid (wr = w.drewN q) := hq
            clear hq
            by_cases hk : k + 1 < j
            · have hk' : (k : Int) + 1 < (j : Int) := by omega
              have hkn : (k : Int) < (n : Int) := by omega
              have hkn1 : (k : Int) + 1 < (n : Int) := by omega
              obtain ⟨k1, ek⟩ : ∃ k1 : Nat, k1 = k + 1 := ⟨_, rfl⟩
              have hwk : IntKind.i64.wrap ((k : Int) + 1) = (k1 : Int) := by rw [IntKind.wrap_i64]; omega
              have hkn2 : (k1 : Int) < (n : Int) := by omega
              have hkj1 : (k1 : Int) < (j : Int) := by omega
              have z1 := X1 k (by omega)
              have z2 := X2 k (by omega)
              have z3 := X1 k1 (by omega)
              have z4 := X2 k1 (by omega)
              have EK : Hid (k1 = k + 1) := ek
              clear ek
              have hsl := fun w => startLess_any (H k) (L k) (H k1) (L k1) w
              rcases hs : slB (H k) (L k) (H k1) (L k1) with _ | _
              · rw [hs] at hsl
                clear hs
                go_wp2
                go_quiet ((go_at_call 25; exact Calls.quiet_of_same (hsl _)))
                go_wp2
                go_ret
                exact ⟨_, _, rfl, by rw [HQ.out]; exact World.drewN_drewN _ _ _⟩
              · rw [hs] at hsl
                clear hs
                go_wp2
                go_quiet ((go_at_call 25; exact Calls.quiet_of_same (hsl _)))
                go_wp2
                go_roundw
                case rel => exact ⟨k1, _, by have := EK.out; omega, by have := EK.out; omega, rfl, by rw [HQ.out]; exact World.drewN_drewN _ _ _⟩
                case measure => have := EK.out; simp [intOf]; omega
            · have hkj : ¬ (k : Int) + 1 < (j : Int) := by omega
              go_wp2
              go_loop [19] (fun t => ∃ m : Nat, i + 1 ≤ m ∧ m ≤ j ∧ t = .int .i64 m) (fun t => j - (intOf t).toNat)
              case atStart => exact ⟨i + 1, by omega, by omega, by go_num⟩
              case round =>
                obtain ⟨m, hm1, hm2, rfl⟩ := hrel
                by_cases hm : m < j
                · have hm' : (m : Int) < (j : Int) := by omega
                  have hmn : (m : Int) < (n : Int) := by omega
                  have z1 := X1 m (by omega)
                  by_cases hs : H m = h
                  · have hs' : (H m != h) = false := by simp [hs]
                    clear hs
                    go_wp2
                    go_round
                    case rel => exact ⟨m + 1, by omega, by omega, by go_num⟩
                    case measure => simp [intOf]; omega
                  · have hs' : (H m != h) = true := by simp [hs]
                    go_wp2
                    go_ret
                    exact ⟨_, _, rfl, HQ.out⟩
                · have hm' : ¬ (m : Int) < (j : Int) := by omega
                  go_wp2
                  go_ret
                  exact ⟨_, _, rfl, HQ.out⟩
      · have c' : (L i == 0) = false := by simp [c]
        go_enter Tryd.func16, Tryd.ntmps16
        go_wp2
        go_ret
        exact ⟨_, 0, rfl, rfl⟩
    · have b' : (H i == h) = false := by simp [b]
      go_enter Tryd.func16, Tryd.ntmps16
      go_wp2
      go_ret
      exact ⟨_, 0, rfl, rfl⟩
end Go.Proofs.Qxb6608729aDoor
