/-
  The plain law: added backward, each run of equal places is reversed.
-/
import Derived.Test.Qxb6608988aPlain
namespace Go.Proofs.Qxb6608988a
set_option linter.unusedSimpArgs false
set_option linter.unusedVariables false

section
variable (L C : Nat → Int)
/-- The list behind k additions from n - 1 down. -/
def rsr (n : Nat) : Nat → List Nat
  | 0 => []
  | k + 1 => ins L C (n - 1 - k) (rsr n k)
def behind (i j : Nat) : Bool := bf L C i j || (!bf L C j i && decide (j < i))
/-- The fault at place p of the forward list, of the backward one. -/
def fw (n p : Nat) : Nat := (srt L C n).getD p 0
def rv (n p : Nat) : Nat := (rsr L C n n).getD p 0
end

variable {L C : Nat → Int}
theorem behind_iff {i j : Nat} : behind L C i j = true ↔ (L i < L j ∨ (L i = L j ∧ C i < C j)) ∨ (¬ (L j < L i ∨ (L j = L i ∧ C j < C i)) ∧ j < i) := by
  have h := @bf_iff L C j i
  have h' := @bf_iff L C i j
  unfold behind
  cases e1 : bf L C i j <;> cases e2 : bf L C j i <;> simp [e1, e2] at h h' ⊢ <;> omega
theorem behind_irrefl (i : Nat) : behind L C i i = false := by
  rw [Bool.eq_false_iff]; intro h; rw [behind_iff] at h; omega
theorem behind_asymm {i j : Nat} (h : behind L C i j = true) : behind L C j i = false := by
  rw [Bool.eq_false_iff]; intro h'; rw [behind_iff] at h h'; omega

theorem rsr_perm {n : Nat} : ∀ k, k ≤ n → (rsr L C n k).Perm (List.range' (n - k) k)
  | 0, _ => by simp [rsr]
  | k + 1, h => by
    rw [rsr, show n - (k + 1) = n - 1 - k by omega, List.range'_succ, show n - 1 - k + 1 = n - k by omega]
    exact (ins_perm _ _).trans ((rsr_perm k (by omega)).cons _)
theorem rsr_len {n k : Nat} (h : k ≤ n) : (rsr L C n k).length = k := by rw [(rsr_perm k h).length_eq, List.length_range']
theorem rsr_mem {n k j : Nat} (h : k ≤ n) : j ∈ rsr L C n k ↔ n - k ≤ j ∧ j < n := by
  rw [(rsr_perm k h).mem_iff, List.mem_range'_1]; omega
theorem rsr_all (n : Nat) : (rsr L C n n).Perm (List.range n) := by
  have := rsr_perm (L := L) (C := C) n (Nat.le_refl n)
  rwa [Nat.sub_self, ← List.range_eq_range'] at this

theorem rsr_sorted {n : Nat} : ∀ k, k ≤ n → (rsr L C n k).Pairwise (fun i j => behind L C i j = true)
  | 0, _ => by simp [rsr]
  | k + 1, hk => by
    have ih := rsr_sorted (n := n) k (by omega)
    rw [rsr]
    unfold ins
    have hm : ∀ j ∈ rsr L C n k, n - 1 - k < j := fun j hj => by have := (rsr_mem (n := n) (k := k) (by omega)).1 hj; omega
    generalize rsr L C n k = l at ih hm
    generalize n - 1 - k = x at hm
    have hsplit := ih
    rw [← List.take_append_drop (spot L C x l) l, List.pairwise_append] at hsplit
    obtain ⟨p1, p2, p3⟩ := hsplit
    have hpre : ∀ a ∈ l.take (spot L C x l), behind L C a x = true := fun a ha => by
      obtain ⟨j, hj, rfl⟩ := List.getElem_of_mem ha
      have hj' : j < spot L C x l := by simp at hj; omega
      have hno := spot_no (L := L) (C := C) hj'
      have hjl : j < l.length := by simp at hj; omega
      rw [List.getD_eq_getElem?_getD, List.getElem?_eq_getElem hjl] at hno
      simp only [Option.getD_some] at hno
      rw [List.getElem_take]
      have hlt := hm l[j] (List.getElem_mem hjl)
      rw [behind_iff]
      have h2 : ¬ (bf L C x l[j] = true) := by rw [hno]; simp
      rw [bf_iff] at h2
      omega
    have hpost : ∀ b ∈ l.drop (spot L C x l), behind L C x b = true := fun b hb => by
      have hlen : spot L C x l < l.length := by
        rcases Nat.lt_or_ge (spot L C x l) l.length with h | h
        · exact h
        · rw [List.drop_eq_nil_of_le h] at hb; cases hb
      have hyes := spot_yes (L := L) (C := C) hlen
      rw [List.getD_eq_getElem?_getD, List.getElem?_eq_getElem hlen, Option.getD_some] at hyes
      rw [List.drop_eq_getElem_cons hlen] at hb p2
      rw [bf_iff] at hyes
      rcases List.mem_cons.1 hb with rfl | hb'
      · rw [behind_iff]; exact .inl hyes
      · have h3 := (List.pairwise_cons.1 p2).1 b hb'
        rw [behind_iff] at h3 ⊢
        omega
    rw [List.pairwise_append]
    refine ⟨p1, List.pairwise_cons.2 ⟨hpost, p2⟩, fun a ha b hb => ?_⟩
    rcases List.mem_cons.1 hb with rfl | hb'
    · exact hpre a ha
    · exact p3 a ha b hb'

theorem fw_get {n p : Nat} (hp : p < n) : (srt L C n)[p]? = some (fw L C n p) := by
  unfold fw
  rw [List.getD_eq_getElem?_getD, List.getElem?_eq_getElem (by rw [srt_len]; exact hp)]; rfl
theorem rv_get {n p : Nat} (hp : p < n) : (rsr L C n n)[p]? = some (rv L C n p) := by
  unfold rv
  rw [List.getD_eq_getElem?_getD, List.getElem?_eq_getElem (by rw [rsr_len (Nat.le_refl n)]; exact hp)]; rfl
theorem fw_lt {n p : Nat} (hp : p < n) : fw L C n p < n := srt_mem.1 (List.mem_of_getElem? (fw_get (L := L) (C := C) hp))
theorem rv_lt {n p : Nat} (hp : p < n) : rv L C n p < n := ((rsr_mem (Nat.le_refl n)).1 (List.mem_of_getElem? (rv_get (L := L) (C := C) hp))).2
theorem fw_ahead {n p q : Nat} (h : p < q) (hq : q < n) : ahead L C (fw L C n p) (fw L C n q) = true := by
  have hs := srt_sorted (L := L) (C := C) n
  rw [List.pairwise_iff_getElem] at hs
  have h1 := List.getElem?_eq_some_iff.1 (fw_get (L := L) (C := C) (n := n) (p := p) (by omega))
  have h2 := List.getElem?_eq_some_iff.1 (fw_get (L := L) (C := C) hq)
  have := hs p q (by rw [srt_len]; omega) (by rw [srt_len]; omega) h
  rw [h1.2, h2.2] at this
  exact this
theorem fw_ne {n p q : Nat} (h : p < q) (hq : q < n) : fw L C n p ≠ fw L C n q := fun e => by
  have := fw_ahead (L := L) (C := C) h hq
  rw [e, ahead_irrefl] at this
  cases this

theorem count_between {s u e : Nat} (h1 : s ≤ u) (h2 : u ≤ e) : ∀ n, (List.range n).countP (fun i => decide (i < s ∨ (u ≤ i ∧ i < e))) = min n s + (min n e - min n u)
  | 0 => by simp
  | n + 1 => by
    rw [List.range_succ, List.countP_append, List.countP_singleton, count_between h1 h2 n]
    by_cases h : n < s ∨ (u ≤ n ∧ n < e)
    · rw [if_pos (by simpa using h)]; omega
    · rw [if_neg (by simpa using h)]; omega

theorem count_by_place {l : List Nat} {r : Nat → Bool} : l.countP r = (List.range l.length).countP (fun p => r (l.getD p 0)) := by
  have : l = (List.range l.length).map (fun p => l.getD p 0) := by
    apply List.ext_getElem?
    intro j
    by_cases hj : j < l.length
    · simp [List.getElem?_range, hj]
    · simp [hj]
  conv => lhs; rw [this]
  rw [List.countP_map]
  rfl

/-- The run from s to e, reversed in the backward list. -/
theorem rev_run {n s e t : Nat} (he : e ≤ n) (hs : s < e) (ht : t < e - s) (h0 : s = 0 ∨ bf L C (fw L C n (s - 1)) (fw L C n s) = true)
    (hrun : ∀ q, s < q → q < e → bf L C (fw L C n s) (fw L C n q) = false) (hend : e = n ∨ bf L C (fw L C n s) (fw L C n e) = true) :
    rv L C n (s + t) = fw L C n (e - 1 - t) := by
  have key : (rsr L C n n)[(rsr L C n n).countP (fun j => behind L C j (fw L C n (e - 1 - t)))]? = some (fw L C n (e - 1 - t)) :=
    at_rank (r := behind L C) behind_irrefl (fun i j => behind_asymm) (rsr_sorted (L := L) (C := C) n (Nat.le_refl n)) ((rsr_mem (Nat.le_refl n)).2 ⟨by omega, fw_lt (by omega)⟩)
  rw [((rsr_all n).trans (srt_perm (L := L) (C := C) n).symm).countP_eq, count_by_place, srt_len] at key
  have cnt : (List.range n).countP (fun p => behind L C ((srt L C n).getD p 0) (fw L C n (e - 1 - t))) = (List.range n).countP (fun i => decide (i < s ∨ (e - t ≤ i ∧ i < e))) := by
    refine List.countP_congr fun p hp => ?_
    have hpn : p < n := List.mem_range.1 hp
    show behind L C (fw L C n p) (fw L C n (e - 1 - t)) = true ↔ _
    rw [behind_iff]
    simp only [decide_eq_true_eq]
    -- the run's places are those of its head
    have tie : ∀ q, s ≤ q → q < e → L (fw L C n q) = L (fw L C n s) ∧ C (fw L C n q) = C (fw L C n s) := fun q h1 h2 => by
      by_cases hq : q = s
      · subst hq; exact ⟨rfl, rfl⟩
      · have ha := fw_ahead (L := L) (C := C) (n := n) (p := s) (q := q) (by omega) (by omega)
        have hb : ¬ (bf L C (fw L C n s) (fw L C n q) = true) := by rw [hrun q (by omega) h2]; simp
        rw [bf_iff] at hb
        rw [ahead_iff] at ha
        omega
    have tx := tie (e - 1 - t) (by omega) (by omega)
    rcases Nat.lt_or_ge p s with h1 | h1
    · -- before the run
      have hb0 := h0.resolve_left (by omega)
      rw [bf_iff] at hb0
      have : L (fw L C n p) < L (fw L C n s) ∨ (L (fw L C n p) = L (fw L C n s) ∧ C (fw L C n p) < C (fw L C n s)) := by
        by_cases hq : p = s - 1
        · subst hq; exact hb0
        · have ha := fw_ahead (L := L) (C := C) (n := n) (p := p) (q := s - 1) (by omega) (by omega)
          rw [ahead_iff] at ha
          omega
      constructor
      · intro _; exact .inl h1
      · intro _; left; omega
    · rcases Nat.lt_or_ge p e with h2 | h2
      · -- in the run
        have tp := tie p h1 h2
        rcases Nat.lt_trichotomy p (e - 1 - t) with h3 | h3 | h3
        · have ha := fw_ahead (L := L) (C := C) (n := n) (p := p) (q := e - 1 - t) h3 (by omega)
          rw [ahead_iff] at ha
          constructor <;> intro h <;> omega
        · subst h3
          constructor <;> intro h <;> omega
        · have ha := fw_ahead (L := L) (C := C) (n := n) (p := e - 1 - t) (q := p) h3 (by omega)
          rw [ahead_iff] at ha
          constructor
          · intro _; right; omega
          · intro _; right; omega
      · -- behind the run
        have hbe := hend.resolve_left (by omega)
        rw [bf_iff] at hbe
        have : L (fw L C n s) < L (fw L C n p) ∨ (L (fw L C n s) = L (fw L C n p) ∧ C (fw L C n s) < C (fw L C n p)) := by
          by_cases hq : p = e
          · subst hq; exact hbe
          · have ha := fw_ahead (L := L) (C := C) (n := n) (p := e) (q := p) (by omega) (by omega)
            rw [ahead_iff] at ha
            omega
        constructor <;> intro h <;> omega
  rw [cnt, count_between (by omega) (by omega), show min n s + (min n e - min n (e - t)) = s + t by omega] at key
  have := (rv_get (L := L) (C := C) (n := n) (p := s + t) (by omega)).symm.trans key
  injection this
end Go.Proofs.Qxb6608988a
