/-
  The plain law: the text tells kind, number and item apart.
-/
import Derived.Test.Qxb6609101aDoorStr
namespace Go.Proofs.Qxb6609101aDoor
set_option linter.unusedSimpArgs false
set_option linter.unusedVariables false

theorem digit_toNat (d : Nat) (h : d < 10) : (UInt8.ofNat (48 + d)).toNat = 48 + d := by
  simp [UInt8.toNat_ofNat]; omega

theorem decDigits_digit (u : Nat) : ∀ b ∈ Lib.decDigits u, 48 ≤ b.toNat ∧ b.toNat ≤ 57 := by
  induction u using Nat.strongRecOn with
  | _ u ih =>
    rw [Lib.decDigits]
    split
    · intro b hb
      obtain rfl : b = UInt8.ofNat (48 + u) := List.mem_singleton.1 hb
      rw [digit_toNat u (by omega)]; omega
    · intro b hb
      rcases List.mem_append.1 hb with h | h
      · exact ih (u / 10) (by omega) b h
      · obtain rfl : b = UInt8.ofNat (48 + u % 10) := List.mem_singleton.1 h
        rw [digit_toNat (u % 10) (by omega)]; omega

/-- What a row of digits is worth. -/
def worth (l : List UInt8) : Nat := l.foldl (fun a b => a * 10 + (b.toNat - 48)) 0

theorem worth_decDigits (u : Nat) : worth (Lib.decDigits u) = u := by
  induction u using Nat.strongRecOn with
  | _ u ih =>
    rw [Lib.decDigits]
    split
    · simp only [worth, List.foldl_cons, List.foldl_nil]
      rw [digit_toNat u (by omega)]; omega
    · have := ih (u / 10) (by omega)
      unfold worth at this ⊢
      rw [List.foldl_append, this]
      simp only [List.foldl_cons, List.foldl_nil]
      rw [digit_toNat (u % 10) (by omega)]; omega

theorem decDigits_inj {u v : Nat} (h : Lib.decDigits u = Lib.decDigits v) : u = v := by
  rw [← worth_decDigits u, ← worth_decDigits v, h]

theorem minus_no {u : Nat} {l : List UInt8} (h : Lib.decDigits u = 45 :: l) : False := by
  have := decDigits_digit u 45 (by rw [h]; simp)
  simp at this

theorem itoa_inj {s t : Int} (h : Lib.itoa s = Lib.itoa t) : s = t := by
  unfold Lib.itoa at h
  split at h <;> split at h
  · injection h with _ h
    have := decDigits_inj h
    omega
  · exact (minus_no h.symm).elim
  · exact (minus_no h).elim
  · have := decDigits_inj h
    omega

theorem isNum_digit {b : UInt8} (h : 48 ≤ b.toNat ∧ b.toNat ≤ 57) : isNum b = true := by
  unfold isNum; simp [h.1, h.2]

theorem itoa_num (t : Int) : ∀ b ∈ Lib.itoa t, isNum b = true := by
  unfold Lib.itoa
  split
  · intro b hb
    rcases List.mem_cons.1 hb with rfl | h
    · decide
    · exact isNum_digit (decDigits_digit _ b h)
  · intro b hb
    exact isNum_digit (decDigits_digit _ b hb)

/-- Two rows of marked bytes, each followed by none or by an unmarked byte first, are told apart. -/
theorem parted {p : UInt8 → Bool} : ∀ {a b r s : List UInt8}, (∀ x ∈ a, p x = true) → (∀ x ∈ b, p x = true) → (∀ x, r.head? = some x → p x = false) → (∀ x, s.head? = some x → p x = false) → a ++ r = b ++ s → a = b ∧ r = s
  | [], [], r, s, _, _, _, _, h => ⟨rfl, by simpa using h⟩
  | [], y :: b, r, s, _, hb, hr, _, h => by
    have h' : r = y :: (b ++ s) := by simpa using h
    have := hr y (by rw [h']; rfl)
    rw [hb y (by simp)] at this; cases this
  | x :: a, [], r, s, ha, _, _, hs, h => by
    have h' : s = x :: (a ++ r) := by simpa using h.symm
    have := hs x (by rw [h']; rfl)
    rw [ha x (by simp)] at this; cases this
  | x :: a, y :: b, r, s, ha, hb, hr, hs, h => by
    have h' : x = y ∧ a ++ r = b ++ s := by simpa using h
    obtain ⟨e1, e2⟩ := parted (fun z hz => ha z (by simp [hz])) (fun z hz => hb z (by simp [hz])) hr hs h'.2
    exact ⟨by rw [h'.1, e1], e2⟩

def rest (k it : ByteArray) : List UInt8 := if hasItem k then [40] ++ it.data.toList ++ [41] else []
theorem rest_head (k it : ByteArray) : ∀ x, (rest k it).head? = some x → isNum x = false := by
  unfold rest
  cases hasItem k
  · intro x hx; simp at hx
  · intro x hx
    obtain rfl : 40 = x := by simpa using hx
    decide

theorem noNum_all {k : ByteArray} (h : noNum k = true) : ∀ x ∈ k.data.toList, (fun b => !isNum b) x = true := by
  unfold noNum at h
  rw [ByteArray.toList_eq, List.all_eq_true] at h
  exact h

theorem text_apart {k1 i1 k2 i2 : ByteArray} {t1 t2 : Int} (n1 : noNum k1 = true) (n2 : noNum k2 = true) :
    text k1 t1 i1 = text k2 t2 i2 ↔ k1 = k2 ∧ t1 = t2 ∧ (i1 = i2 ∨ hasItem k1 = false) := by
  have inj : ∀ {a b : ByteArray}, a.data.toList = b.data.toList → a = b := fun {a b} h => by
    cases a; cases b
    congr 1
    exact Array.toList_inj.1 h
  constructor
  · intro h
    have h' : k1.data.toList ++ (Lib.itoa t1 ++ rest k1 i1) = k2.data.toList ++ (Lib.itoa t2 ++ rest k2 i2) := by
      simpa [text, rest, List.append_assoc] using h
    have hd : ∀ (t : Int) (r : List UInt8) x, (Lib.itoa t ++ r).head? = some x → (fun b => !isNum b) x = false := fun t r x hx => by
      have hp := itoa_pos t
      cases he : Lib.itoa t with
      | nil => rw [he] at hp; simp at hp
      | cons y l =>
        rw [he] at hx
        obtain rfl : y = x := by simpa using hx
        simp [itoa_num t y (by rw [he]; simp)]
    obtain ⟨e1, e2⟩ := parted (p := fun b => !isNum b) (noNum_all n1) (noNum_all n2) (hd t1 _) (hd t2 _) h'
    obtain rfl := inj e1
    obtain ⟨e3, e4⟩ := parted (p := isNum) (itoa_num t1) (itoa_num t2) (rest_head k1 i1) (rest_head k1 i2) e2
    refine ⟨rfl, itoa_inj e3, ?_⟩
    cases hh : hasItem k1
    · exact .inr rfl
    · left
      unfold rest at e4
      rw [hh] at e4
      exact inj (by simpa using e4)
  · rintro ⟨rfl, rfl, h⟩
    rcases h with rfl | h
    · rfl
    · unfold text; rw [h]; rfl

end Go.Proofs.Qxb6609101aDoor
