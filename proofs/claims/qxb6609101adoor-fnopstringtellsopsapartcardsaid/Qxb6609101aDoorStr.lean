/-
  Op.String.
-/
import Derived.Test.Qxb6609101aDoorApp
import Derived.Laws.BytesArg
namespace Go.Proofs.Qxb6609101aDoor
set_option linter.unusedSimpArgs false
set_option linter.unusedVariables false
open Go.RowKit

/-- The text of an operation. -/
def text (k : ByteArray) (t : Int) (it : ByteArray) : List UInt8 :=
  k.data.toList ++ Lib.itoa t ++ (if hasItem k then [40] ++ it.data.toList ++ [41] else [])

theorem textCells_eq (k : ByteArray) (t : Int) (it : ByteArray) : textCells k t it = Lib.byteCells (text k t it) := by
  unfold textCells text Lib.byteCells Lib.strCells
  cases hasItem k <;> simp

theorem text_ne (k : ByteArray) (t : Int) (it : ByteArray) : text k t it ≠ [] := fun h => by
  have h1 := itoa_pos t
  have h2 := congrArg List.length h
  simp [text] at h2
  simp [h2.2.1] at h1

theorem run_string_own {W : World} {B n : Nat} {v : Value} {bs : List UInt8} (h : W.ownsRow B 5 1 v n (Lib.byteCells bs)) (hne : bs ≠ []) : (convert 31 9 v).run Tryd.prog W = .ok (.string ⟨bs.toArray⟩) W := by
  have hl : bs.length = n := by have := h.1; rwa [Lib.byteCells_length, Nat.mul_one] at this
  rcases h.2 with ⟨_, h0⟩ | ⟨g, cap, cur, rfl, _, _, _, _, _, _⟩
  · exact absurd (List.eq_nil_of_length_eq_zero (hl.trans h0)) hne
  · have hc := h.cells (g := g) rfl
    rw [run_convert_bytes_arg (P := Tryd.prog) W 31 5 Tryd.underlying31 Tryd.underlying5 g 0 n cap (bs.map fun b => (b.toNat : Int)) (by simpa using hl) (fun i hi => by
      have := hc i (.int .u8 ((bs.map fun b => (b.toNat : Int)).getD i 0)) (by
        simp [Lib.byteCells, List.getElem?_eq_getElem (show i < bs.length by omega)])
      rwa [Addr.add_mid] at this) 9 Tryd.underlying9]
    congr 3
    unfold strOfNums
    simp [Function.comp_def]

set_option maxHeartbeats 4000000 in
theorem string_7 (k it : ByteArray) (t l c ver : Int) (w0 w : World) (hAI : AI w0) (hb : Below w0.heap.size w0 w) (h0 : -9223372036854775808 ≤ t) (h1 : t ≤ 9223372036854775807) (hk : k.size ≤ 262144) (hi : it.size ≤ 262144) :
    Calls Tryd.prog 7 #[opV k t it l c ver] w fun e w' => e = .returned (.string ⟨(text k t it).toArray⟩) ∧ Below w.heap.size w w' := by
  unfold opV
  go_enter Tryd.func7, Tryd.ntmps7
  have h13 := appendTo_13 k it t l c ver w0 (w.alloc (.cells #[.string k, .int .i64 t, .string it, .int .i64 l, .int .i64 c, .int .i64 ver] 27)) hAI (hb.alloc hb.size _) h0 h1 hk hi
  unfold opV at h13
  have hcv : ∀ W B v n, W.ownsRow B 5 1 v n (textCells k t it) → (convert 31 9 v).run Tryd.prog W = .ok (.string ⟨(text k t it).toArray⟩) W := fun W B v n h =>
    run_string_own (by rw [← textCells_eq]; exact h) (text_ne k t it)
  have Hcv := (show Hid _ from hcv)
  clear hcv
  go_wp2_with (go_at_call 13; refine h13.mono ?_; rintro e w1 ⟨v, n, rfl, hown, hbl⟩; have hr := Hcv.out _ _ _ _ hown)
  go_ret
  exact ⟨rfl, ((Below.refl _ w).alloc (Nat.le_refl _) _).trans (hbl.mono (by simp))⟩

end Go.Proofs.Qxb6609101aDoor
