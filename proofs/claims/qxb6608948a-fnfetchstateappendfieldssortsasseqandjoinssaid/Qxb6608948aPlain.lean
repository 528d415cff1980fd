/-
  Plain arithmetic: bytes as numbers, the greatest first. No Go in sight.
-/
namespace Go.Proofs.Qxb6608948a
/-- The number that the first n bytes spell. -/
def seg (x : Nat → Int) : Nat → Int
  | 0 => 0
  | n + 1 => seg x n * 256 + x n
theorem seg_lt (a b : Nat → Int) (ha : ∀ i, 0 ≤ a i ∧ a i ≤ 255) (hb : ∀ i, 0 ≤ b i ∧ b i ≤ 255) (n : Nat) (h : seg a n < seg b n) : ∀ m, seg a (n + m) < seg b (n + m)
  | 0 => h
  | m + 1 => by
    have := seg_lt a b ha hb n h m
    have := ha (n + m); have := hb (n + m)
    show seg a (n + m) * 256 + a (n + m) < seg b (n + m) * 256 + b (n + m)
    omega
/-- How two texts of eight bytes compare. -/
def cmp8 (a b : Nat → Int) : Int := if seg a 8 < seg b 8 then -1 else if seg b 8 < seg a 8 then 1 else 0
theorem cmp8_lt (a b : Nat → Int) (ha : ∀ i, 0 ≤ a i ∧ a i ≤ 255) (hb : ∀ i, 0 ≤ b i ∧ b i ≤ 255) (k : Nat) (hk : k < 8) (he : seg a k = seg b k) (hl : a k < b k) : cmp8 a b = -1 := by
  have e1 : seg a (k + 1) = seg a k * 256 + a k := rfl
  have e2 : seg b (k + 1) = seg b k * 256 + b k := rfl
  have := seg_lt a b ha hb (k + 1) (by omega) (7 - k)
  rw [show k + 1 + (7 - k) = 8 by omega] at this
  unfold cmp8; rw [if_pos this]
theorem cmp8_gt (a b : Nat → Int) (ha : ∀ i, 0 ≤ a i ∧ a i ≤ 255) (hb : ∀ i, 0 ≤ b i ∧ b i ≤ 255) (k : Nat) (hk : k < 8) (he : seg a k = seg b k) (hl : b k < a k) : cmp8 a b = 1 := by
  have e1 : seg a (k + 1) = seg a k * 256 + a k := rfl
  have e2 : seg b (k + 1) = seg b k * 256 + b k := rfl
  have := seg_lt b a hb ha (k + 1) (by omega) (7 - k)
  rw [show k + 1 + (7 - k) = 8 by omega] at this
  unfold cmp8; rw [if_neg (by omega), if_pos this]
theorem cmp8_eq (a b : Nat → Int) (he : seg a 8 = seg b 8) : cmp8 a b = 0 := by
  unfold cmp8; rw [if_neg (by omega), if_neg (by omega)]
/-- The eight bytes of a word, the greatest first. -/
def byt (v : Int) : Nat → Int
  | 0 => v / 72057594037927936
  | 1 => v / 281474976710656 % 256
  | 2 => v / 1099511627776 % 256
  | 3 => v / 4294967296 % 256
  | 4 => v / 16777216 % 256
  | 5 => v / 65536 % 256
  | 6 => v / 256 % 256
  | 7 => v % 256
  | _ => 0
theorem byt_byte (v : Int) (h0 : 0 ≤ v) (h1 : v < 18446744073709551616) (i : Nat) : 0 ≤ byt v i ∧ byt v i ≤ 255 := by
  rcases Nat.lt_or_ge i 8 with h | h
  · rcases (by omega : i = 0 ∨ i = 1 ∨ i = 2 ∨ i = 3 ∨ i = 4 ∨ i = 5 ∨ i = 6 ∨ i = 7) with e | e | e | e | e | e | e | e <;> subst e <;> simp only [byt] <;> omega
  · obtain ⟨m, rfl⟩ := Nat.exists_eq_add_of_le h
    rw [Nat.add_comm]; simp only [byt]; omega
theorem seg_byt (v : Int) : seg (byt v) 8 = v := by simp only [seg, byt]; omega
/-- The encodings sort as the words do. -/
theorem cmp_words (s t : Int) : cmp8 (byt s) (byt t) = if s < t then -1 else if t < s then 1 else 0 := by
  unfold cmp8; rw [seg_byt, seg_byt]
end Go.Proofs.Qxb6608948a
