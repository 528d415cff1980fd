/-
  The plain law: insertion by place gives each its rank.
-/
import Derived.Test.Qxb6608988aKit
namespace Go.Proofs.Qxb6608988a
set_option linter.unusedSimpArgs false
set_option linter.unusedVariables false

section
variable (L C : Nat → Int)
/-- Index i stands before index j. -/
def bf (i j : Nat) : Bool := lt (L i) (C i) (L j) (C j)
/-- Where x goes in. -/
def spot (x : Nat) (l : List Nat) : Nat := l.findIdx (fun j => bf L C x j)
def ins (x : Nat) (l : List Nat) : List Nat := l.take (spot L C x l) ++ x :: l.drop (spot L C x l)
/-- The list behind n additions. -/
def srt : Nat → List Nat
  | 0 => []
  | n + 1 => ins L C n (srt n)
/-- i is counted in j's rank: strictly before, or at the same place and added ahead. -/
def ahead (i j : Nat) : Bool := bf L C i j || (!bf L C j i && decide (i < j))
end

variable {L C : Nat → Int}
theorem lt_iff {a b c d : Int} : lt a b c d = true ↔ a < c ∨ (a = c ∧ b < d) := by simp [lt]
theorem bf_iff {i j : Nat} : bf L C i j = true ↔ L i < L j ∨ (L i = L j ∧ C i < C j) := lt_iff
theorem ahead_iff {i j : Nat} : ahead L C i j = true ↔ (L i < L j ∨ (L i = L j ∧ C i < C j)) ∨ (¬ (L j < L i ∨ (L j = L i ∧ C j < C i)) ∧ i < j) := by
  have h := @bf_iff L C j i
  have h' := @bf_iff L C i j
  unfold ahead
  cases e1 : bf L C i j <;> cases e2 : bf L C j i <;> simp [e1, e2] at h h' ⊢ <;> omega
theorem ahead_irrefl (i : Nat) : ahead L C i i = false := by
  rw [Bool.eq_false_iff]; intro h; rw [ahead_iff] at h; omega
theorem ahead_asymm {i j : Nat} (h : ahead L C i j = true) : ahead L C j i = false := by
  rw [Bool.eq_false_iff]; intro h'; rw [ahead_iff] at h h'; omega

theorem ins_perm (x : Nat) (l : List Nat) : (ins L C x l).Perm (x :: l) := by
  unfold ins
  exact (List.perm_middle).trans (List.Perm.cons _ (by rw [List.take_append_drop]))
theorem srt_perm : ∀ n, (srt L C n).Perm (List.range n)
  | 0 => by simp [srt]
  | n + 1 => by
    rw [srt, List.range_succ]
    exact (ins_perm n _).trans (((srt_perm n).cons n).trans (List.perm_append_singleton n _).symm)
theorem srt_len (n : Nat) : (srt L C n).length = n := by rw [(srt_perm n).length_eq, List.length_range]
theorem srt_mem {n j : Nat} : j ∈ srt L C n ↔ j < n := by rw [(srt_perm n).mem_iff, List.mem_range]

theorem spot_le (x : Nat) (l : List Nat) : spot L C x l ≤ l.length := List.findIdx_le_length
theorem spot_no {x : Nat} {l : List Nat} {j : Nat} (h : j < spot L C x l) : bf L C x (l.getD j 0) = false := by
  have hl := spot_le (L := L) (C := C) x l
  have := List.not_of_lt_findIdx h
  rw [List.getD_eq_getElem?_getD, List.getElem?_eq_getElem (by omega)]
  simpa using this
theorem spot_yes {x : Nat} {l : List Nat} (h : spot L C x l < l.length) : bf L C x (l.getD (spot L C x l) 0) = true := by
  have := List.findIdx_getElem (w := h)
  rw [List.getD_eq_getElem?_getD, List.getElem?_eq_getElem h]
  exact this

theorem srt_sorted : ∀ n, (srt L C n).Pairwise (fun i j => ahead L C i j = true)
  | 0 => by simp [srt]
  | n + 1 => by
    have ih := srt_sorted n
    rw [srt]
    unfold ins
    have hm : ∀ j ∈ srt L C n, j < n := fun j hj => srt_mem.1 hj
    generalize srt L C n = l at ih hm
    have hsplit := ih
    rw [← List.take_append_drop (spot L C n l) l, List.pairwise_append] at hsplit
    obtain ⟨p1, p2, p3⟩ := hsplit
    have hpre : ∀ a ∈ l.take (spot L C n l), ahead L C a n = true := fun a ha => by
      obtain ⟨j, hj, rfl⟩ := List.getElem_of_mem ha
      have hj' : j < spot L C n l := by simp at hj; omega
      have hno := spot_no (L := L) (C := C) hj'
      have hjl : j < l.length := by simp at hj; omega
      rw [List.getD_eq_getElem?_getD, List.getElem?_eq_getElem hjl] at hno
      simp only [Option.getD_some] at hno
      rw [List.getElem_take]
      have hlt := hm l[j] (List.getElem_mem hjl)
      rw [ahead_iff]
      have h2 : ¬ (bf L C n l[j] = true) := by rw [hno]; simp
      rw [bf_iff] at h2
      omega
    have hpost : ∀ b ∈ l.drop (spot L C n l), ahead L C n b = true := fun b hb => by
      have hlen : spot L C n l < l.length := by
        rcases Nat.lt_or_ge (spot L C n l) l.length with h | h
        · exact h
        · rw [List.drop_eq_nil_of_le h] at hb; cases hb
      have hyes := spot_yes (L := L) (C := C) hlen
      rw [List.getD_eq_getElem?_getD, List.getElem?_eq_getElem hlen, Option.getD_some] at hyes
      rw [List.drop_eq_getElem_cons hlen] at hb p2
      rw [bf_iff] at hyes
      rcases List.mem_cons.1 hb with rfl | hb'
      · rw [ahead_iff]; exact .inl hyes
      · have h3 := (List.pairwise_cons.1 p2).1 b hb'
        rw [ahead_iff] at h3 ⊢
        omega
    rw [List.pairwise_append]
    refine ⟨p1, List.pairwise_cons.2 ⟨hpost, p2⟩, fun a ha b hb => ?_⟩
    rcases List.mem_cons.1 hb with rfl | hb'
    · exact hpre a ha
    · exact p3 a ha b hb'

/-- In a sorted list each stands at the number of those ahead. -/
theorem at_rank {r : Nat → Nat → Bool} (hirr : ∀ i, r i i = false) (has : ∀ i j, r i j = true → r j i = false) {l : List Nat} (hs : l.Pairwise (fun i j => r i j = true)) {x : Nat} (hx : x ∈ l) : l[l.countP (fun j => r j x)]? = some x := by
  obtain ⟨a, b, rfl⟩ := List.append_of_mem hx
  rw [List.pairwise_append] at hs
  obtain ⟨_, h2, h3⟩ := hs
  have e1 : a.countP (fun j => r j x) = a.length := List.countP_eq_length.2 (fun j hj => h3 j hj x (by simp))
  have e2 : b.countP (fun j => r j x) = 0 := List.countP_eq_zero.2 (fun j hj => by rw [has x j ((List.pairwise_cons.1 h2).1 j hj)]; simp)
  rw [List.countP_append, List.countP_cons, e1, e2, hirr]
  simp

/-- The rank as the law reckons it. -/
def rank (L C : Nat → Int) (n i : Nat) : Nat := (List.range n).countP (fun j => ahead L C j i)
theorem srt_rank {n i : Nat} (hi : i < n) : (srt L C n)[rank L C n i]? = some i := by
  have := at_rank (r := ahead L C) ahead_irrefl (fun i j => ahead_asymm) (srt_sorted (L := L) (C := C) n) (srt_mem.2 hi)
  rwa [(srt_perm n).countP_eq] at this
theorem rank_succ (n i : Nat) : rank L C (n + 1) i = rank L C n i + (if ahead L C n i then 1 else 0) := by
  unfold rank
  rw [List.range_succ, List.countP_append, List.countP_singleton]
theorem rank_le (n i : Nat) : rank L C n i ≤ n := by
  have := List.countP_le_length (p := fun j => ahead L C j i) (l := List.range n)
  simpa [rank] using this
theorem rank_lt {n i : Nat} (hi : i < n) : rank L C n i < n := by
  have h := srt_rank (L := L) (C := C) hi
  have := (List.getElem?_eq_some_iff.1 h).1
  rwa [srt_len] at this
end Go.Proofs.Qxb6608988a
