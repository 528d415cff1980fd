/-
  The law.
-/
import Derived.Test.Qxb6609101aDoorPlain
namespace Go.Proofs.Qxb6609101aDoor
set_option linter.unusedSimpArgs false
set_option linter.unusedVariables false
open Go.RowKit

theorem eqs (a b : ByteArray) : (a.toList == b.toList) = decide (a = b) := by
  by_cases h : a = b
  · subst h; simp
  · rw [decide_eq_false h, beq_eq_false_iff_ne]
    intro e
    rw [ByteArray.toList_eq, ByteArray.toList_eq] at e
    exact h (by cases a; cases b; congr 1; exact Array.toList_inj.1 e)

theorem sameText {k1 i1 k2 i2 : ByteArray} {t1 t2 : Int} (n1 : noNum k1 = true) (n2 : noNum k2 = true) :
    text k1 t1 i1 = text k2 t2 i2 ↔ ((k1.toList == k2.toList) && ((t1 == t2) && ((i1.toList == i2.toList) || !hasItem k1))) = true := by
  rw [eqs, eqs, text_apart n1 n2]
  simp

theorem five {k1 i1 k2 i2 : ByteArray} {t1 t2 : Int} (n1 : noNum k1 = true) (n2 : noNum k2 = true) :
    ((k1.toList == k2.toList) = false ∧ ¬ text k1 t1 i1 = text k2 t2 i2) ∨
    ((k1.toList == k2.toList) = true ∧ (t1 == t2) = false ∧ ¬ text k1 t1 i1 = text k2 t2 i2) ∨
    ((k1.toList == k2.toList) = true ∧ (t1 == t2) = true ∧ (i1.toList == i2.toList) = true ∧ text k1 t1 i1 = text k2 t2 i2) ∨
    ((k1.toList == k2.toList) = true ∧ (t1 == t2) = true ∧ (i1.toList == i2.toList) = false ∧ hasItem k1 = true ∧ ¬ text k1 t1 i1 = text k2 t2 i2) ∨
    ((k1.toList == k2.toList) = true ∧ (t1 == t2) = true ∧ (i1.toList == i2.toList) = false ∧ hasItem k1 = false ∧ text k1 t1 i1 = text k2 t2 i2) := by
  rw [sameText n1 n2]
  cases (k1.toList == k2.toList) <;> cases (t1 == t2) <;> cases (i1.toList == i2.toList) <;> cases hasItem k1 <;> simp

set_option maxHeartbeats 8000000 in
theorem law_5 (k1 i1 k2 i2 : ByteArray) (t1 l1 c1 t2 l2 c2 : Int) (w : World) (hAI : AI w) (a0 : -9223372036854775808 ≤ t1) (a1 : t1 ≤ 9223372036854775807) (b0 : -9223372036854775808 ≤ t2) (b1 : t2 ≤ 9223372036854775807) :
    Calls Tryd.prog 5 #[.string k1, .int .i64 t1, .string i1, .int .i64 l1, .int .i64 c1, .string k2, .int .i64 t2, .string i2, .int .i64 l2, .int .i64 c2] w fun e w' => e = .returned (.bool true) ∧ Below w.heap.size w w' := by
  have h14 := zzBytes_14 k1 i1 k2 i2 t1 l1 c1 t2 l2 c2 w
  by_cases s1 : k1.size ≤ 262144
  case neg =>
    have d1 : (262144 : Int) < (k1.size : Int) := by omega
    go_enter Tryd.func5, Tryd.ntmps5
    go_wp2_with (go_at_call 14; refine h14.mono ?_; rintro e w' ⟨⟨b, rfl⟩, hw⟩; obtain rfl := hw.symm)
    all_goals (go_ret; exact ⟨rfl, Below.refl _ _⟩)
  by_cases s2 : i1.size ≤ 262144
  case neg =>
    have d1 : (k1.size : Int) ≤ 262144 := by omega
    have d2 : (262144 : Int) < (i1.size : Int) := by omega
    go_enter Tryd.func5, Tryd.ntmps5
    go_wp2_with (go_at_call 14; refine h14.mono ?_; rintro e w' ⟨⟨b, rfl⟩, hw⟩; obtain rfl := hw.symm)
    all_goals (go_ret; exact ⟨rfl, Below.refl _ _⟩)
  by_cases s3 : k2.size ≤ 262144
  case neg =>
    have d1 : (k1.size : Int) ≤ 262144 := by omega
    have d2 : (i1.size : Int) ≤ 262144 := by omega
    have d3 : (262144 : Int) < (k2.size : Int) := by omega
    go_enter Tryd.func5, Tryd.ntmps5
    go_wp2_with (go_at_call 14; refine h14.mono ?_; rintro e w' ⟨⟨b, rfl⟩, hw⟩; obtain rfl := hw.symm)
    all_goals (go_ret; exact ⟨rfl, Below.refl _ _⟩)
  by_cases s4 : i2.size ≤ 262144
  case neg =>
    have d1 : (k1.size : Int) ≤ 262144 := by omega
    have d2 : (i1.size : Int) ≤ 262144 := by omega
    have d3 : (k2.size : Int) ≤ 262144 := by omega
    have d4 : (262144 : Int) < (i2.size : Int) := by omega
    go_enter Tryd.func5, Tryd.ntmps5
    go_wp2_with (go_at_call 14; refine h14.mono ?_; rintro e w' ⟨⟨b, rfl⟩, hw⟩; obtain rfl := hw.symm)
    all_goals (go_ret; exact ⟨rfl, Below.refl _ _⟩)
  have d1 : (k1.size : Int) ≤ 262144 := by omega
  have d2 : (i1.size : Int) ≤ 262144 := by omega
  have d3 : (k2.size : Int) ≤ 262144 := by omega
  have d4 : (i2.size : Int) ≤ 262144 := by omega
  have p1 := noNum_15 k1 (by omega)
  have p2 := noNum_15 k2 (by omega)
  cases n1 : noNum k1
  case false =>
    rw [n1] at p1
    go_enter Tryd.func5, Tryd.ntmps5
    go_wp2_with (first
      | (go_at_call 14; refine h14.mono ?_; rintro e w' ⟨⟨b, rfl⟩, hw⟩; obtain rfl := hw.symm)
      | (go_at_call 15; with_reducible refine (p1 _).mono ?_; rintro e w' ⟨rfl, hw⟩; obtain rfl := hw.symm))
    all_goals (go_ret; exact ⟨rfl, Below.refl _ _⟩)
  rw [n1] at p1
  cases n2 : noNum k2
  case false =>
    rw [n2] at p2
    go_enter Tryd.func5, Tryd.ntmps5
    go_wp2_with (first
      | (go_at_call 14; refine h14.mono ?_; rintro e w' ⟨⟨b, rfl⟩, hw⟩; obtain rfl := hw.symm)
      | (go_at_call 15; first | with_reducible refine (p1 _).mono ?_ | with_reducible refine (p2 _).mono ?_
         rintro e w' ⟨rfl, hw⟩; obtain rfl := hw.symm))
    all_goals (go_ret; exact ⟨rfl, Below.refl _ _⟩)
  rw [n2] at p2
  have h12 := takesItem_12 k1
  have q1 := string_7 k1 i1 t1 l1 c1 0 w
  have q2 := string_7 k2 i2 t2 l2 c2 0 w
  have HF := (show Hid _ from five (i1 := i1) (i2 := i2) (t1 := t1) (t2 := t2) n1 n2)
  go_enter Tryd.func5, Tryd.ntmps5
  go_wp2_with (first
      | (go_at_call 14; refine h14.mono ?_; rintro e w' ⟨⟨b, rfl⟩, hw⟩; obtain rfl := hw.symm)
      | (go_at_call 15; first | with_reducible refine (p1 _).mono ?_ | with_reducible refine (p2 _).mono ?_
         rintro e w' ⟨rfl, hw⟩; obtain rfl := hw.symm))
  · go_ret; exact ⟨rfl, Below.refl _ _⟩
  refine (q1 _ hAI (((Below.refl _ w).alloc (Nat.le_refl _) _).alloc (by simp) _) a0 a1 s1 s2).mono ?_
  rintro e w1 ⟨rfl, hb1⟩
  have hbw : Below w.heap.size w w1 := (((Below.refl _ w).alloc (Nat.le_refl _) _).alloc (by simp) _).trans (hb1.mono (by simp; omega))
  have e0 : w1.cell? ⟨w.heap.size + 1, 0, none⟩ = some (.string k2) := (hb1.cell (by simp)).trans (by simp [go_sem])
  have e1 : w1.cell? ⟨w.heap.size + 1, 1, none⟩ = some (.int .i64 t2) := (hb1.cell (by simp)).trans (by simp [go_sem])
  have e2 : w1.cell? ⟨w.heap.size + 1, 2, none⟩ = some (.string i2) := (hb1.cell (by simp)).trans (by simp [go_sem])
  have e3 : w1.cell? ⟨w.heap.size + 1, 3, none⟩ = some (.int .i64 l2) := (hb1.cell (by simp)).trans (by simp [go_sem])
  have e4 : w1.cell? ⟨w.heap.size + 1, 4, none⟩ = some (.int .i64 c2) := (hb1.cell (by simp)).trans (by simp [go_sem])
  have e5 : w1.cell? ⟨w.heap.size + 1, 5, none⟩ = some (.int .i64 0) := (hb1.cell (by simp)).trans (by simp [go_sem])
  have hs1 := hbw.size
  clear hb1
  rcases HF.out with ⟨f1, f2⟩ | ⟨f1, f2, f3⟩ | ⟨f1, f2, f3, f4⟩ | ⟨f1, f2, f3, f4, f5⟩ | ⟨f1, f2, f3, f4, f5⟩
  · go_wp2_with (go_at_call 7; refine (q2 _ hAI hbw b0 b1 s3 s4).mono ?_; rintro e w2 ⟨rfl, hb2⟩)
    go_ret
    exact ⟨by simp [f1, f2], hbw.trans (hb2.mono hs1)⟩
  · go_wp2_with (go_at_call 7; refine (q2 _ hAI hbw b0 b1 s3 s4).mono ?_; rintro e w2 ⟨rfl, hb2⟩)
    go_ret
    exact ⟨by simp [f1, f2, f3], hbw.trans (hb2.mono hs1)⟩
  · go_wp2_with (go_at_call 7; refine (q2 _ hAI hbw b0 b1 s3 s4).mono ?_; rintro e w2 ⟨rfl, hb2⟩)
    go_ret
    exact ⟨by simp [f1, f2, f3, f4], hbw.trans (hb2.mono hs1)⟩
  · rw [f4] at h12
    go_wp2_with (first
      | (go_at_call 7; refine (q2 _ hAI hbw b0 b1 s3 s4).mono ?_; rintro e w2 ⟨rfl, hb2⟩)
      | (go_at_call 12; refine (h12 _).mono ?_; rintro e w' ⟨rfl, hw⟩; obtain rfl := hw.symm))
    go_ret
    exact ⟨by simp [f1, f2, f3, f4, f5], hbw.trans (hb2.mono hs1)⟩
  · rw [f4] at h12
    go_wp2_with (first
      | (go_at_call 7; refine (q2 _ hAI hbw b0 b1 s3 s4).mono ?_; rintro e w2 ⟨rfl, hb2⟩)
      | (go_at_call 12; refine (h12 _).mono ?_; rintro e w' ⟨rfl, hw⟩; obtain rfl := hw.symm))
    go_ret
    exact ⟨by simp [f1, f2, f3, f4, f5], hbw.trans (hb2.mono hs1)⟩

end Go.Proofs.Qxb6609101aDoor
