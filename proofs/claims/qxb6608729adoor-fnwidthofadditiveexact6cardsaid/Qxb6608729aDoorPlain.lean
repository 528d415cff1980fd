/-
  Plain arithmetic: bytes as numbers, the greatest first. No Go in sight.
-/
namespace Go.Proofs.Qxb6608729aDoor
set_option linter.unusedSimpArgs false
set_option linter.unusedVariables false

/-- The number that the n bytes from o on spell. -/
def seg (x : Nat → Int) (o : Nat) : Nat → Int
  | 0 => 0
  | n + 1 => seg x o n * 256 + x (o + n)
def leB (a b : Nat → Int) : Bool := decide (seg a 0 16 ≤ seg b 0 16)

theorem seg_lo (x : Nat → Int) (o : Nat) (h : ∀ i, 0 ≤ x i) : ∀ n, 0 ≤ seg x o n
  | 0 => by simp [seg]
  | n + 1 => by have := seg_lo x o h n; have := h (o + n); simp only [seg]; omega
theorem seg_lt (a b : Nat → Int) (ha : ∀ i, 0 ≤ a i ∧ a i ≤ 255) (hb : ∀ i, 0 ≤ b i ∧ b i ≤ 255) (n : Nat) (h : seg a 0 n < seg b 0 n) : ∀ m, seg a 0 (n + m) < seg b 0 (n + m)
  | 0 => h
  | m + 1 => by
    have := seg_lt a b ha hb n h m
    have := ha (0 + (n + m)); have := hb (0 + (n + m))
    show seg a 0 (n + m) * 256 + a (0 + (n + m)) < seg b 0 (n + m) * 256 + b (0 + (n + m))
    omega
theorem leB_hit (a b : Nat → Int) (ha : ∀ i, 0 ≤ a i ∧ a i ≤ 255) (hb : ∀ i, 0 ≤ b i ∧ b i ≤ 255) (k : Nat) (hk : k < 16) (he : seg a 0 k = seg b 0 k) (hne : a k ≠ b k) : leB a b = decide (a k < b k) := by
  unfold leB
  have e1 : seg a 0 (k + 1) = seg a 0 k * 256 + a k := by simp [seg]
  have e2 : seg b 0 (k + 1) = seg b 0 k * 256 + b k := by simp [seg]
  by_cases h : a k < b k
  · have := seg_lt a b ha hb (k + 1) (by omega) (15 - k)
    rw [show k + 1 + (15 - k) = 16 by omega] at this
    simp [h]; omega
  · have := seg_lt b a hb ha (k + 1) (by omega) (15 - k)
    rw [show k + 1 + (15 - k) = 16 by omega] at this
    simp [h]; omega
theorem leB_eq (a b : Nat → Int) (he : seg a 0 16 = seg b 0 16) : leB a b = true := by unfold leB; simp; omega

/-- The borrow behind the m least bytes. -/
def bw (a b : Nat → Int) : Nat → Int
  | 0 => 0
  | m + 1 => if b (15 - m) - a (15 - m) - bw a b m < 0 then 1 else 0
/-- The digit at place i. -/
def dg (a b : Nat → Int) (i : Nat) : Int := b i - a i - bw a b (15 - i) + 256 * bw a b (16 - i)
theorem bw_01 (a b : Nat → Int) : ∀ m, 0 ≤ bw a b m ∧ bw a b m ≤ 1
  | 0 => by simp [bw]
  | m + 1 => by simp only [bw]; split <;> omega
theorem dg_byte (a b : Nat → Int) (ha : ∀ i, 0 ≤ a i ∧ a i ≤ 255) (hb : ∀ i, 0 ≤ b i ∧ b i ≤ 255) (i : Nat) (hi : i ≤ 15) : 0 ≤ dg a b i ∧ dg a b i ≤ 255 := by
  have e : bw a b (16 - i) = if b i - a i - bw a b (15 - i) < 0 then 1 else 0 := by
    rw [show 16 - i = (15 - i) + 1 by omega]; simp only [bw]; rw [show 15 - (15 - i) = i by omega]
  have := ha i; have := hb i; have := bw_01 a b (15 - i)
  unfold dg; rw [e]; split <;> omega
/-- One step of the schoolbook. -/
theorem dg_neg (a b : Nat → Int) (i : Nat) (hi : i ≤ 15) (h : b i - a i - bw a b (15 - i) < 0) : dg a b i = b i - a i - bw a b (15 - i) + 256 ∧ bw a b (16 - i) = 1 := by
  have e : bw a b (16 - i) = if b i - a i - bw a b (15 - i) < 0 then 1 else 0 := by
    rw [show 16 - i = (15 - i) + 1 by omega]; simp only [bw]; rw [show 15 - (15 - i) = i by omega]
  unfold dg; rw [e, if_pos h]; omega
theorem dg_pos (a b : Nat → Int) (i : Nat) (hi : i ≤ 15) (h : ¬ b i - a i - bw a b (15 - i) < 0) : dg a b i = b i - a i - bw a b (15 - i) ∧ bw a b (16 - i) = 0 := by
  have e : bw a b (16 - i) = if b i - a i - bw a b (15 - i) < 0 then 1 else 0 := by
    rw [show 16 - i = (15 - i) + 1 by omega]; simp only [bw]; rw [show 15 - (15 - i) = i by omega]
  unfold dg; rw [e, if_neg h]; omega
/-- The sixteen digits are the difference. -/
theorem seg_dg (a b : Nat → Int) : seg (dg a b) 0 16 = seg b 0 16 - seg a 0 16 + 340282366920938463463374607431768211456 * bw a b 16 := by
  simp only [seg, dg, Nat.zero_add, Nat.add_zero]
  simp only [show (15 - 0 : Nat) = 15 from rfl, show (15 - 1 : Nat) = 14 from rfl, show (15 - 2 : Nat) = 13 from rfl, show (15 - 3 : Nat) = 12 from rfl, show (15 - 4 : Nat) = 11 from rfl, show (15 - 5 : Nat) = 10 from rfl, show (15 - 6 : Nat) = 9 from rfl, show (15 - 7 : Nat) = 8 from rfl, show (15 - 8 : Nat) = 7 from rfl, show (15 - 9 : Nat) = 6 from rfl, show (15 - 10 : Nat) = 5 from rfl, show (15 - 11 : Nat) = 4 from rfl, show (15 - 12 : Nat) = 3 from rfl, show (15 - 13 : Nat) = 2 from rfl, show (15 - 14 : Nat) = 1 from rfl, show (15 - 15 : Nat) = 0 from rfl,
    show (16 - 0 : Nat) = 16 from rfl, show (16 - 1 : Nat) = 15 from rfl, show (16 - 2 : Nat) = 14 from rfl, show (16 - 3 : Nat) = 13 from rfl, show (16 - 4 : Nat) = 12 from rfl, show (16 - 5 : Nat) = 11 from rfl, show (16 - 6 : Nat) = 10 from rfl, show (16 - 7 : Nat) = 9 from rfl, show (16 - 8 : Nat) = 8 from rfl, show (16 - 9 : Nat) = 7 from rfl, show (16 - 10 : Nat) = 6 from rfl, show (16 - 11 : Nat) = 5 from rfl, show (16 - 12 : Nat) = 4 from rfl, show (16 - 13 : Nat) = 3 from rfl, show (16 - 14 : Nat) = 2 from rfl, show (16 - 15 : Nat) = 1 from rfl]
  have h0 : bw a b 0 = 0 := rfl
  omega
theorem seg_split (x : Nat → Int) : seg x 0 16 = seg x 0 8 * 18446744073709551616 + seg x 8 8 := by
  simp only [seg, Nat.zero_add, Nat.add_zero]
  simp only [show (8 + 1 : Nat) = 9 from rfl, show (8 + 2 : Nat) = 10 from rfl, show (8 + 3 : Nat) = 11 from rfl, show (8 + 4 : Nat) = 12 from rfl, show (8 + 5 : Nat) = 13 from rfl, show (8 + 6 : Nat) = 14 from rfl, show (8 + 7 : Nat) = 15 from rfl]
  omega
theorem seg_bd (x : Nat → Int) (o : Nat) (h : ∀ i, i < 16 → 0 ≤ x i ∧ x i ≤ 255) : ∀ n, o + n ≤ 16 → 0 ≤ seg x o n ∧ seg x o n < 256 ^ n
  | 0, _ => by simp [seg]
  | n + 1, hn => by
    have := seg_bd x o h n (by omega); have := h (o + n) (by omega)
    simp only [seg]; rw [Int.pow_succ]; omega
end Go.Proofs.Qxb6608729aDoor
