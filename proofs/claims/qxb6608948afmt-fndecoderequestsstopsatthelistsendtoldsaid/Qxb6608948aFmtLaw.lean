/-
  FnDecodeRequestsStopsAtTheListsEnd: the walk.
-/
import Derived.Test.Qxb6608948aFmtEl
namespace Go.Proofs.Qxb6608948aFmt
set_option linter.unusedSimpArgs false
set_option linter.unusedVariables false
open Go.RowKit Go.Extern.Stop Go.Stop Go.Extern

theorem Ints.buf {B n : Nat} {f : Nat → UInt8} {W : World} (h : Ints B 0 n (fun m => ((f m).toNat : Int)) W) : Buf B n f W := fun k hk => by
  have := h k hk
  rwa [Nat.zero_add] at this
theorem Buf.ints {B n : Nat} {f : Nat → UInt8} {W : World} (h : Buf B n f W) : Ints B 0 n (fun m => ((f m).toNat : Int)) W := fun k hk => by
  rw [Nat.zero_add]; exact h k hk
theorem Buf.below {B n : Nat} {f : Nat → UInt8} {W W' : World} (h : Buf B n f W) (hb : Below W.heap.size W W') : Buf B n f W' := fun k hk =>
  (hb.cell (p := ⟨B, k, none⟩) (World.block_lt_of_cell? W _ (h k hk))).trans (h k hk)
/-- A clone: nil and empty, or a row of its own. -/
def Cl (a : Option Addr) (n : Nat) (f : Nat → UInt8) (base : Nat) (W : World) : Prop := (a = none ∧ n = 0) ∨ ∃ B, a = some ⟨B, 0, none⟩ ∧ B ≤ base ∧ Buf B n f W
theorem Cl.below {a : Option Addr} {n base : Nat} {f : Nat → UInt8} {W W' : World} (h : Cl a n f base W) (hb : Below W.heap.size W W') : Cl a n f base W' := by
  rcases h with h | ⟨B, h1, h2, h4⟩
  · exact .inl h
  · exact .inr ⟨B, h1, h2, h4.below hb⟩
theorem Cl.rd {a : Option Addr} {n base : Nat} {f : Nat → UInt8} {W : World} (h : Cl a n f base W) : Rd a n (fun m => ((f m).toNat : Int)) W := fun h0 => by
  rcases h with h | ⟨B, h1, h2, h4⟩
  · omega
  · exact ⟨B, 0, h1, h4.ints⟩
theorem clone_b (a : Option Addr) (n c : Nat) (f : Nat → UInt8) (w : World) (hn : n ≤ 2097152) (r : Rd a n (fun m => ((f m).toNat : Int)) w) (hnil : a = none → n = 0 ∧ c = 0) :
    Calls Tryf.prog 5 #[.slice a n c] w fun e w' => ∃ a', e = .returned (.slice a' n n) ∧ Cl a' n f w.heap.size w' ∧ Below w.heap.size w w' ∧ w.heap.size ≤ w'.heap.size := by
  rcases a with _ | x
  · obtain ⟨rfl, rfl⟩ := hnil rfl
    refine (clone_nil w).mono ?_
    rintro e w' ⟨rfl, rfl⟩
    exact ⟨none, rfl, .inl ⟨rfl, rfl⟩, Below.refl _ _, Nat.le_refl _⟩
  · refine (clone_some x n c _ w hn r).mono ?_
    rintro e w' ⟨rfl, hi, hb⟩
    exact ⟨_, rfl, .inr ⟨_, rfl, Nat.le_refl _, hi.buf⟩, hb, hb.size⟩
/-- The joined bytes. -/
def jn (n : Nat) (f g : Nat → UInt8) (k : Nat) : UInt8 := if k < n then f k else g (k - n)
theorem jn_agree (n T : Nat) (f g : Nat → UInt8) : Agree n (n + T) f (jn n f g) := ⟨by omega, fun k hk => by unfold jn; rw [if_pos hk]⟩

theorem slice_of {w : World} {b z n : Nat} {t : TypeId} {v : Value} {xs : List Value} (h : w.ownsRow b t z v n xs) : ∃ a c, v = .slice a n c := by
  rcases h.2 with ⟨h1, h2⟩ | ⟨g, cap, cur, h1, _⟩
  · exact ⟨none, 0, by rw [h1, h2]⟩
  · exact ⟨_, _, h1⟩
theorem sen_below {w w' : World} (h : Sen w) (hb : Below w.heap.size w w') : Sen w' := by
  obtain ⟨t, v, hs⟩ := h
  exact ⟨t, v, (hb.cell (p := ⟨1, 0, none⟩) (World.block_lt_of_cell? w _ hs)).trans hs⟩
/-- The two decoders, from their making on. -/
theorem dec_pair (F : Interp) (a3 : Option Addr) (n K J base : Nat) (f fj : Nat → UInt8) (w6 : World) (hF : F.answers w6.tape) (hS : Sen w6) (c3 : Cl a3 n f base w6) (hbase : base < w6.heap.size) (hJ : Buf J K fj w6) (hJl : J < w6.heap.size) (hn : n ≤ 1048576) (hK : K ≤ 1048576) :
    ∃ B, (0 < n → a3 = some ⟨B, 0, none⟩ ∧ Buf B n f w6 ∧ B < w6.heap.size) ∧
      Dec8 w6.heap.size B n f ((w6.alloc (.cells #[.slice a3 n n, .nilIface] 42)).alloc (.cells #[.slice (some ⟨J, 0, none⟩) K K, .nilIface] 42)) ∧
      ∀ w9, ((w6.alloc (.cells #[.slice a3 n n, .nilIface] 42)).alloc (.cells #[.slice (some ⟨J, 0, none⟩) K K, .nilIface] 42)).grownBy w9 (some w6.heap.size) → Dec8 (w6.heap.size + 1) J K fj w9 := by
  have hb8 : Below w6.heap.size w6 ((w6.alloc (.cells #[.slice a3 n n, .nilIface] 42)).alloc (.cells #[.slice (some ⟨J, 0, none⟩) K K, .nilIface] 42)) := ((Below.refl _ _).alloc (Nat.le_refl _) _).alloc (by simp) _
  have hA : ((w6.alloc (.cells #[.slice a3 n n, .nilIface] 42)).alloc (.cells #[.slice (some ⟨J, 0, none⟩) K K, .nilIface] 42)).heap[w6.heap.size]? = some (.cells #[.slice a3 n n, .nilIface] 42 (0, 0)) := by
    rw [Below.heap_alloc _ _ _ (by simp)]; exact heap_alloc_new w6 _
  have hB : ((w6.alloc (.cells #[.slice a3 n n, .nilIface] 42)).alloc (.cells #[.slice (some ⟨J, 0, none⟩) K K, .nilIface] 42)).heap[w6.heap.size + 1]? = some (.cells #[.slice (some ⟨J, 0, none⟩) K K, .nilIface] 42 (0, 0)) := by
    have := heap_alloc_new (w6.alloc (.cells #[.slice a3 n n, .nilIface] 42)) (.cells #[.slice (some ⟨J, 0, none⟩) K K, .nilIface] 42)
    rwa [show (w6.alloc (.cells #[.slice a3 n n, .nilIface] 42)).heap.size = w6.heap.size + 1 by simp] at this
  have hs8 : ((w6.alloc (.cells #[.slice a3 n n, .nilIface] 42)).alloc (.cells #[.slice (some ⟨J, 0, none⟩) K K, .nilIface] 42)).heap.size = w6.heap.size + 1 + 1 := by simp
  generalize ((w6.alloc (.cells #[.slice a3 n n, .nilIface] 42)).alloc (.cells #[.slice (some ⟨J, 0, none⟩) K K, .nilIface] 42)) = W8 at hb8 hA hB hs8
  have h1 : 1 < w6.heap.size := by obtain ⟨t, v, hs⟩ := hS; exact World.block_lt_of_cell? w6 _ hs
  have hF8 : F.answers W8.tape := by rw [hb8.tape]; exact hF
  have second : ∀ w9, W8.grownBy w9 (some w6.heap.size) → Dec8 (w6.heap.size + 1) J K fj w9 := fun w9 hg => by
    have hne : ∀ b, b ≠ w6.heap.size → (some b : Option Nat) ≠ some w6.heap.size := fun b h e => h (by injection e)
    refine dec_some F _ J K fj w9 (by rw [hg.tape]; exact hF8) ⟨fun k hk => ?_, ?_, by omega, by omega, hK⟩ ((hg.block _ (by omega) (hne _ (by omega))).trans hB)
    · rw [World.cell?_of_block (w := W8) (a := ⟨J, k, none⟩) (hg.block J (by omega) (hne _ (by omega)))]
      exact (hJ.below hb8) k hk
    · obtain ⟨t, v, hs⟩ := sen_below hS hb8
      exact ⟨t, v, by rw [World.cell?_of_block (w := W8) (a := ⟨1, 0, none⟩) (hg.block 1 (by omega) (hne _ (by omega)))]; exact hs⟩
  rcases c3 with ⟨rfl, rfl⟩ | ⟨B, rfl, hBb, hBuf⟩
  · exact ⟨w6.heap.size + 1, fun h => by omega, dec_nil F _ f W8 hF8 (sen_below hS hb8) (by omega) hA, second⟩
  · exact ⟨B, fun _ => ⟨rfl, hBuf, by omega⟩, dec_some F _ B n f W8 hF8 ⟨hBuf.below hb8, sen_below hS hb8, by omega, by omega, hn⟩ hA, second⟩

set_option maxRecDepth 8000 in
set_option maxHeartbeats 100000000 in
theorem law3_some (F : Interp) (a a' : Option Addr) (n c n' c' : Nat) (f g : Nat → UInt8) (w : World) (hF : F.answers w.tape) (hS : Sen w) (hn : n + n' ≤ 1048576) (r : Rd a n (fun m => ((f m).toNat : Int)) w) (r' : Rd a' n' (fun m => ((g m).toNat : Int)) w) (hnil : a = none → n = 0 ∧ c = 0) (hnil' : a' = none → n' = 0 ∧ c' = 0) :
    Calls Tryf.prog 3 #[.slice a n c, .slice a' n' c'] w fun e w' => e = .returned (.bool true) ∧ Below w.heap.size w w' := by
  have h4 := bytes_4 a a' n c n' c' w (by omega) (by omega)
  have h5a := clone_b a n c f w (by omega) r hnil
  have hn1 : (n : Int) ≤ 1048576 := by omega
  have hn2 : (n' : Int) ≤ 1048576 - (n : Int) := by omega
  have hwn : IntKind.i64.wrap (1048576 - (n : Int)) = 1048576 - (n : Int) := by rw [IntKind.wrap_i64]; omega
  obtain ⟨K, hK⟩ : ∃ K, K = n + n' := ⟨_, rfl⟩
  have hwK : IntKind.i64.wrap ((n : Int) + (n' : Int)) = (K : Int) := by rw [IntKind.wrap_i64]; omega
  obtain ⟨MM, hMM, hmk⟩ := make_bytes K (by omega)
  have hKh : Hid (K = n + n') := hK
  clear hK
  go_enter Tryf.func3, Tryf.ntmps3
  go_wp2_with (first
    | (go_at_call 4; refine h4.mono ?_; rintro e w' ⟨⟨b, rfl⟩, hw⟩; obtain rfl := hw.symm)
    | (go_at_call 5; (with_reducible refine h5a.mono ?_); rintro e w1 ⟨a1, rfl, cl1, b1, z1⟩; have h5b := clone_b a' n' c' g w1 (by omega) (r'.below b1) hnil')
    | (go_at_call 5; (with_reducible refine h5b.mono ?_); rintro e w2 ⟨a2, rfl, cl2, b2, z2⟩; have h5c := clone_b a n c f w2 (by omega) (r.below (b1.trans (b2.mono z1))) hnil)
    | (go_at_call 5; (with_reducible refine h5c.mono ?_); rintro e w3 ⟨a3, rfl, cl3, b3, z3⟩))
  all_goals first
    | (go_ret; exact ⟨rfl, Below.refl _ _⟩)
    | skip
  have cl1' := (cl1.below b2).below b3
  have cl2' := cl2.below b3
  have hw3 : Below w.heap.size w w3 := b1.trans ((b2.mono z1).trans (b3.mono (by omega)))
  have hO : Own w3.heap.size K (w3.alloc (.cells MM 5)) := fun c hc => by
    have h := heap_alloc_new w3 (.cells MM 5)
    refine ⟨?_, frozen_of_row _ _ c _ _ h⟩
    rw [cell_of_row _ _ c _ _ _ h, Array.getElem?_eq_getElem (by omega)]; rfl
  have hbm : Below w3.heap.size w3 (w3.alloc (.cells MM 5)) := (Below.refl _ _).alloc (Nat.le_refl _) _
  clear h4 h5a h5b h5c r r' hmk cl1 cl2 b1 b2 b3
  go_loopw [8] (fun i wr => ∃ k : Nat, k ≤ n ∧ i = .int .i64 k ∧ Own w3.heap.size K wr ∧ (∀ m, m < k → wr.cell? ⟨w3.heap.size, m, none⟩ = some (.int .u8 ((jn n f g m).toNat : Int))) ∧ Below w3.heap.size w3 wr ∧ w3.heap.size < wr.heap.size) (fun i _ => n - (intOf i).toNat)
  case atStart => exact ⟨0, by omega, rfl, hO, fun m hm => by omega, hbm, by simp⟩
  case round =>
    clear hO hbm
    obtain ⟨k, hk, rfl, rO, rA, hbl, hzr⟩ := hrel
    by_cases hlt : k < n
    · have hlt' : (k : Int) < (n : Int) := by omega
      obtain ⟨b, o, e, x1⟩ := (cl1'.below hbl).rd (by omega)
      subst e
      have y1 := x1 k hlt
      have hkK : (k : Int) < (K : Int) := by have := hKh.out; omega
      have hkK2 : k < K := by have := hKh.out; omega
      obtain ⟨u0, k0⟩ := Option.isSome_iff_exists.1 (rO k hkK2).1
      have f0 := (rO k hkK2).2
      have hj : jn n f g k = f k := by unfold jn; rw [if_pos hlt]
      have C := copy_step (F := fun m => ((jn n f g m).toNat : Int)) rO rA hkK2
      have O2 := rO.set k (.int .u8 ((f k).toNat : Int))
      simp only [hj] at C
      have hb2 : Below w3.heap.size w3 (wr.setCell ⟨w3.heap.size, k, none⟩ (.int .u8 ((f k).toNat : Int))) := hbl.setCell (Nat.le_refl _) _
      clear hj x1
      go_wp2
      go_roundw
      case rel => exact ⟨k + 1, by omega, by go_num, O2, C, hb2, by simpa using hzr⟩
      case measure => simp [intOf]; omega
    · obtain rfl : n = k := by omega
      obtain ⟨wa, hwa⟩ : ∃ wa, wa = wr := ⟨_, rfl⟩
      subst hwa
      go_wp2
      go_loopw [9] (fun i wr => ∃ k : Nat, k ≤ n' ∧ i = .int .i64 k ∧ Own w3.heap.size K wr ∧ (∀ m, m < n + k → wr.cell? ⟨w3.heap.size, m, none⟩ = some (.int .u8 ((jn n f g m).toNat : Int))) ∧ Below w3.heap.size w3 wr ∧ w3.heap.size < wr.heap.size) (fun i _ => n' - (intOf i).toNat)
      case atStart => exact ⟨0, by omega, rfl, rO, rA, hbl, hzr⟩
      case round =>
        clear rO rA hbl hzr
        obtain ⟨k, hk, rfl, rO, rA, hbl, hzr⟩ := hrel
        by_cases hlt : k < n'
        · have hlt' : (k : Int) < (n' : Int) := by omega
          obtain ⟨b, o, e, x1⟩ := (cl2'.below hbl).rd (by omega)
          subst e
          have y1 := x1 k hlt
          obtain ⟨x, hx⟩ : ∃ x, x = n + k := ⟨_, rfl⟩
          have hwx : IntKind.i64.wrap ((n : Int) + (k : Int)) = (x : Int) := by rw [IntKind.wrap_i64]; omega
          have hkK : (x : Int) < (K : Int) := by have := hKh.out; omega
          have hkK2 : x < K := by have := hKh.out; omega
          obtain ⟨u0, k0⟩ := Option.isSome_iff_exists.1 (rO x hkK2).1
          have f0 := (rO x hkK2).2
          have hj : jn n f g x = g k := by unfold jn; rw [if_neg (by omega)]; congr 1; omega
          rw [← hx] at rA
          have C := copy_step (F := fun m => ((jn n f g m).toNat : Int)) rO rA hkK2
          have O2 := rO.set x (.int .u8 ((g k).toNat : Int))
          simp only [hj] at C
          have hb2 : Below w3.heap.size w3 (wr.setCell ⟨w3.heap.size, x, none⟩ (.int .u8 ((g k).toNat : Int))) := hbl.setCell (Nat.le_refl _) _
          have hxh : Hid (x + 1 = n + (k + 1)) := (by show x + 1 = n + (k + 1); omega)
          clear hj x1 hx
          go_wp2
          go_roundw
          case rel => exact ⟨k + 1, by omega, by go_num, O2, by rw [← hxh.out]; exact C, hb2, by simpa using hzr⟩
          case measure => simp [intOf]; omega
        · obtain rfl : n' = k := by omega
          have hKK := hKh.out
          have hJ : Buf w3.heap.size K (jn n f g) wr := fun m hm => rA m (by omega)
          have hKb : K ≤ 1048576 := by omega
          clear hKK
          have c1 := cl1'.below hbl
          have c2 := cl2'.below hbl
          have c3 := cl3.below hbl
          have hw5 : Below w.heap.size w wr := hw3.trans (hbl.mono hw3.size)
          clear rO rA cl1' cl2' cl3 hw3
          obtain ⟨w5, hw5e⟩ : ∃ w5, w5 = wr := ⟨_, rfl⟩
          subst hw5e
          have hS5 : Sen w5 := sen_below hS hw5
          have hF5 : F.answers w5.tape := by rw [hw5.tape]; exact hF
          by_cases h4n : 4 ≤ n
          · have h4n' : (4 : Int) ≤ (n : Int) := by omega
            obtain ⟨B1, hB1e, hB1b, hB1⟩ : ∃ B, a1 = some ⟨B, 0, none⟩ ∧ B ≤ w.heap.size ∧ Buf B n f w5 := by
              rcases c1 with ⟨_, h⟩ | h
              · omega
              · exact h
            subst hB1e
            have h6 : Calls Tryf.prog 6 #[.slice (some ⟨B1, 0, none⟩) n n, .int .i64 0] w5 fun e w' => e = .returned (.int .u32 ((be32 f 0 : Nat) : Int)) ∧ Below w5.heap.size w5 w' := be_at B1 n n 0 1 2 3 f w5 rfl rfl rfl (by omega) (by omega) hB1
            obtain ⟨x, hx⟩ : ∃ x, x = be32 f 0 := ⟨_, rfl⟩
            have hxl : x < 4294967296 := by rw [hx]; exact be32_lt f 0
            rw [← hx] at h6
            obtain ⟨m, hm⟩ : ∃ m, m = n - 4 := ⟨_, rfl⟩
            have hwm : IntKind.i64.wrap ((n : Int) - 4) = (m : Int) := by rw [IntKind.wrap_i64]; omega
            have hmb : m ≤ 1048576 := by omega
            have hwx : IntKind.u64.wrap ((x : Int) * 24) = (x : Int) * 24 := by rw [IntKind.wrap_u64]; omega
            have hct : ct n f 24 (some 0) = if x * 24 ≤ m then some 4 else none := by
              rw [hx, hm]; simp [ct, h4n]
            have hxh : Hid (x = be32 f 0) := hx
            have hmh : Hid (m = n - 4) := hm
            clear hx hm c1
            by_cases hfit : x * 24 ≤ m
            · have hfit' : (x : Int) * 24 ≤ (m : Int) := by omega
              rw [if_pos hfit] at hct
              have hcth : Hid (ct n f 24 (some 0) = some 4) := hct
              clear hct
              have hag : Agree n K f (jn n f g) := by rw [hKh.out]; exact jn_agree n n' f g
              have hct2 : Hid (ct K (jn n f g) 24 (some 0) = some 4) := hag.ct hcth.out
              have hn2x : Hid (x = be32 (jn n f g) 0) := hxh.out.trans (hag.be32 (by omega))
              have hxb : x ≤ 1048576 := by omega
              have hxb' : (x : Int) ≤ 1048576 := by omega
              cases hfe : sts n f (some 4) x with
              | none =>
                have hfin : Hid (sts n f (some 4) x = none) := hfe
                clear hfe hct2 hn2x
                go_wp2_with (first
                  | (go_at_call 6
                     (with_reducible refine h6.mono ?_)
                     rintro e w6 ⟨rfl, hb6⟩
                     have hF6 : F.answers w6.tape := by rw [hb6.tape]; exact hF5
                     have hS6 := sen_below hS5 hb6
                     have c36 := c3.below hb6
                     have hJ6 := hJ.below hb6
                     have hz6 := hb6.size
                     obtain ⟨B, hBn, hd1, hpair⟩ := dec_pair F a3 n K w3.heap.size w2.heap.size f (jn n f g) w6 hF6 hS6 c36 (by omega) hJ6 (by omega) (by omega) (by omega)
                     unfold Dec8 at hd1)
                  | (go_at_call 7; (with_reducible refine (new_7 _ _ _ _).mono ?_); rintro e w7 ⟨rfl, rfl⟩)
                  | (go_at_call 8
                     (with_reducible refine hd1.mono ?_)
                     rintro e w9 ⟨u1, rfl, v1, n1, xs1, hv1, own1, z1, p1, st1, g1, els1⟩
                     injection hv1 with hv1
                     subst hv1
                     obtain ⟨x1, y1, rfl⟩ := slice_of own1
                     obtain rfl : x = n1 := hxh.out.trans (p1 4 hcth.out).symm
                     have hd2 := hpair w9 g1
                     unfold Dec8 at hd2
                     rw [hcth.out, hfin.out] at st1
                     obtain ⟨_, _, t1, e1, k1⟩ := st1)
                  | (go_at_call 8
                     (with_reducible refine hd2.mono ?_)
                     rintro e w10 ⟨u2, rfl, v2, n2, xs2, hv2, own2, z2', p2, st2, g2, els2⟩
                     have hk10 : w10.cell? ⟨w6.heap.size, 1, none⟩ = some (.iface t1 e1) := by
                       rw [World.cell?_of_block (w := w9) (a := ⟨w6.heap.size, 1, none⟩) (g2.block w6.heap.size (World.block_lt_of_cell? w9 ⟨w6.heap.size, 1, none⟩ k1) (fun e => by injection e with e; omega))]
                       exact k1)
                  | (go_at_call 9; refine (err_9 w6.heap.size _ w10 hk10).mono ?_; rintro e w11 ⟨rfl, hw⟩; obtain rfl := hw.symm))
                go_ret
                refine ⟨rfl, ?_⟩
                have hz8 : w.heap.size ≤ w6.heap.size := Nat.le_trans hw5.size hb6.size
                have q6 : Below w.heap.size w w6 := hw5.trans (hb6.mono hw5.size)
                have q8 := (q6.alloc hz8 (.cells #[.slice a3 n n, .nilIface] 42)).alloc (by simp; omega) (.cells #[.slice (some ⟨w3.heap.size, 0, none⟩) K K, .nilIface] 42)
                have q9 := q8.grown g1 (by simp; omega) (fun q hq => by injection hq with hq; omega)
                exact q9.grown g2 (by have := g1.size; simp at this; omega) (fun q hq => by injection hq with hq; omega)
              | some pf =>
                have hfin : Hid (sts n f (some 4) x = some pf) := hfe
                have hfin2 : Hid (sts K (jn n f g) (some 4) x = some pf) := hag.sts (fun p h => h) hfe
                clear hfe
                go_wp2_with (first
                  | (go_at_call 6
                     (with_reducible refine h6.mono ?_)
                     rintro e w6 ⟨rfl, hb6⟩
                     have hF6 : F.answers w6.tape := by rw [hb6.tape]; exact hF5
                     have hS6 := sen_below hS5 hb6
                     have c36 := c3.below hb6
                     have hJ6 := hJ.below hb6
                     have hz6 := hb6.size
                     obtain ⟨B, hBn, hd1, hpair⟩ := dec_pair F a3 n K w3.heap.size w2.heap.size f (jn n f g) w6 hF6 hS6 c36 (by omega) hJ6 (by omega) (by omega) (by omega)
                     unfold Dec8 at hd1)
                  | (go_at_call 7; (with_reducible refine (new_7 _ _ _ _).mono ?_); rintro e w7 ⟨rfl, rfl⟩)
                  | (go_at_call 8
                     (with_reducible refine hd1.mono ?_)
                     rintro e w9 ⟨u1, rfl, v1, n1, xs1, hv1, own1, z1, p1, st1, g1, els1⟩
                     injection hv1 with hv1
                     subst hv1
                     obtain ⟨x1, y1, rfl⟩ := slice_of own1
                     obtain rfl : x = n1 := hxh.out.trans (p1 4 hcth.out).symm
                     have hd2 := hpair w9 g1
                     unfold Dec8 at hd2
                     rw [hct2.out] at hd2
                     rw [hcth.out] at els1
                     rw [hcth.out, hfin.out] at st1
                     clear z1 p1)
                  | (go_at_call 8
                     (with_reducible refine hd2.mono ?_)
                     rintro e w10 ⟨u2, rfl, v2, n2, xs2, hv2, own2, z2', p2, st2, g2, els2⟩
                     injection hv2 with hv2
                     subst hv2
                     obtain ⟨x2, y2, rfl⟩ := slice_of own2
                     obtain rfl : x = n2 := hn2x.out.trans (p2 4 rfl).symm
                     rw [hfin2.out] at st2
                     have st1b : St w6.heap.size B n (some pf) w10 := st1.of_block (g2.block w6.heap.size (st1.lt) (fun e => by injection e with e; omega))
                     have hk10 := st1b.2.2.2
                     have hk20 := st2.2.2.2
                     clear z2' p2)
                  | (go_at_call 9; (with_reducible refine (err_9 w6.heap.size _ w10 hk10).mono ?_); rintro e w11 ⟨rfl, hw⟩; obtain rfl := hw.symm)
                  | (go_at_call 9; (with_reducible refine (err_9 (w6.heap.size + 1) _ w10 hk20).mono ?_); rintro e w11 ⟨rfl, hw⟩; obtain rfl := hw.symm))
                have hs8 : ((w6.alloc (.cells #[.slice a3 n n, .nilIface] 42)).alloc (.cells #[.slice (some ⟨w3.heap.size, 0, none⟩) K K, .nilIface] 42)).heap.size = w6.heap.size + 1 + 1 := by simp
                have hb8 : Below w6.heap.size w6 ((w6.alloc (.cells #[.slice a3 n n, .nilIface] 42)).alloc (.cells #[.slice (some ⟨w3.heap.size, 0, none⟩) K K, .nilIface] 42)) := ((Below.refl _ _).alloc (Nat.le_refl _) _).alloc (by simp) _
                obtain ⟨W8, hW8⟩ : ∃ W8, W8 = ((w6.alloc (.cells #[.slice a3 n n, .nilIface] 42)).alloc (.cells #[.slice (some ⟨w3.heap.size, 0, none⟩) K K, .nilIface] 42)) := ⟨_, rfl⟩
                rw [← hW8] at hs8 hb8 own1 els1 g1
                clear hW8 hd1 hpair hd2
                have hsz9 := g1.size
                have hsz10 := g2.size
                have own1b := own1.kept g2 (.inr (fun e => by have := (own1.lt _ e).1; omega))
                have els1b : Els B n f (some 4) W8.heap.size x xs1 w10 := fun j hj => by
                  obtain ⟨c1, q1, t1, l1, z1, au1, e0, e1, e2, e3, hau, hr⟩ := els1 j hj
                  exact ⟨c1, q1, t1, l1, z1, au1, e0, e1, e2, e3, hau, fun p p' h1 h2 => (hr p p' h1 h2).kept g2 (.inr (fun e => by have := ((hr p p' h1 h2).auth.lt _ e).1; omega))⟩
                have hBuf6 := (hBn (by omega)).2.1
                have hBlt := (hBn (by omega)).2.2
                have e10 : ∀ b, b < w6.heap.size → w10.heap[b]? = w6.heap[b]? := fun b hb => by
                  rw [g2.block b (by omega) (fun e => by injection e with e; omega), g1.block b (by omega) (fun e => by injection e with e; omega), hb8.block b hb]
                have hb10 : Below w6.heap.size w6 w10 := ⟨g2.os.trans (g1.os.trans hb8.os), g2.tape.trans (g1.tape.trans hb8.tape), g2.output.trans (g1.output.trans hb8.output), by omega, e10⟩
                have hBuf := hBuf6.below hb10
                have hBufJ := hJ6.below hb10
                have c2b := (c2.below hb6).below hb10
                have hw10 : Below w.heap.size w w10 := hw5.trans ((hb6.mono hw5.size).trans (hb10.mono (Nat.le_trans hw5.size hb6.size)))
                clear own1 els1 g1 g2 hb8 hs8 hBuf6 hBlt hJ6 c36 e10 hb10 hb6 hw5 hJ c2 c3 hBn st1 hk10 hk20 hS5 hS6 hF5 hF6 h6 hB1
                go_loopw [18] (fun i wr => ∃ i' : Nat, i' ≤ x ∧ i = .int .i64 i' ∧ Below w10.heap.size w10 wr) (fun i _ => x - (intOf i).toNat)
                case atStart => exact ⟨0, by omega, rfl, Below.refl _ _⟩
                case round =>
                  obtain ⟨i, hi, rfl, hbr⟩ := hrel
                  by_cases hix : i < x
                  · have hix' : (i : Int) < (x : Int) := by omega
                    obtain ⟨p, hp⟩ := sts_upto hfin.out i (by omega)
                    obtain ⟨p', hp'⟩ := sts_upto hfin.out (i + 1) (by omega)
                    have hrq : rq n f (some p) = some p' := by
                      have h : rq n f (sts n f (some 4) i) = some p' := hp'
                      rw [hp] at h
                      exact h
                    obtain ⟨c1, q1, t1, l1, z1, au1, e0, e1, e2, e3, ⟨aa1, k1, ac1, rfl⟩, hr1⟩ := els1b i hix
                    obtain ⟨c2, q2, t2, l2, z2, au2, d0, d1, d2, d3, ⟨aa2, k2, ac2, rfl⟩, hr2⟩ := els2 i hix
                    have hbd : Below w10.heap.size w10 wr.drew := hbr.drew
                    have nn : ∀ v : Value, v.ownBlock = none ∨ v.ownBlock ≠ (none : Option Nat) := fun v => by cases h : v.ownBlock with
                      | none => exact .inl rfl
                      | some g => exact .inr (by simp)
                    have hgn : w10.grownBy wr.drew none := ⟨hbd.os, hbd.tape, hbd.output, hbd.size, fun b hb _ => hbd.block b hb⟩
                    have hsame := same_el (z1 := z1) (z2 := z2) hag (by omega) hrq ((hr1 p p' hp hp').kept hgn (nn _)) ((hr2 p p' (hag.sts (fun p h => h) hp) (hag.sts (fun p h => h) hp')).kept hgn (nn _)) (hBuf.below hbd) (hBufJ.below hbd)
                    obtain ⟨G1, rfl⟩ : ∃ g, x1 = some ⟨g, 0, none⟩ := by
                      rcases own1b.2 with ⟨h1, h2⟩ | ⟨g, cap, cur, h1, _⟩
                      · omega
                      · injection h1 with h1; exact ⟨g, h1⟩
                    obtain ⟨G2, rfl⟩ : ∃ g, x2 = some ⟨g, 0, none⟩ := by
                      rcases own2.2 with ⟨h1, h2⟩ | ⟨g, cap, cur, h1, _⟩
                      · omega
                      · injection h1 with h1; exact ⟨g, h1⟩
                    have at1 : ∀ j v, xs1[j]? = some v → j < x * 4 → wr.drew.cell? ⟨G1, j, none⟩ = some v := fun j v h hj => by
                      have := (own1b.cellAt j hj).trans h
                      exact (hbd.cell (p := ⟨G1, j, none⟩) (World.block_lt_of_cell? w10 _ this)).trans this
                    have at2 : ∀ j v, xs2[j]? = some v → j < x * 4 → wr.drew.cell? ⟨G2, j, none⟩ = some v := fun j v h hj => by
                      have := (own2.cellAt j hj).trans h
                      exact (hbd.cell (p := ⟨G2, j, none⟩) (World.block_lt_of_cell? w10 _ this)).trans this
                    have HS : Hid (wr.drew.cell? ⟨G1, i * 4, none⟩ = some (.int .u64 (c1 : Int)) ∧ wr.drew.cell? ⟨G1, i * 4 + 1, none⟩ = some (.int .u64 (q1 : Int)) ∧ wr.drew.cell? ⟨G1, i * 4 + 2, none⟩ = some (.slice t1 l1 z1) ∧ wr.drew.cell? ⟨G1, i * 4 + 3, none⟩ = some (.slice aa1 k1 ac1) ∧ wr.drew.cell? ⟨G2, i * 4, none⟩ = some (.int .u64 (c2 : Int)) ∧ wr.drew.cell? ⟨G2, i * 4 + 1, none⟩ = some (.int .u64 (q2 : Int)) ∧ wr.drew.cell? ⟨G2, i * 4 + 2, none⟩ = some (.slice t2 l2 z2) ∧ wr.drew.cell? ⟨G2, i * 4 + 3, none⟩ = some (.slice aa2 k2 ac2)) := ⟨at1 _ _ e0 (by omega), at1 _ _ e1 (by omega), at1 _ _ e2 (by omega), at1 _ _ e3 (by omega), at2 _ _ d0 (by omega), at2 _ _ d1 (by omega), at2 _ _ d2 (by omega), at2 _ _ d3 (by omega)⟩
                    have eight_on : ∀ W W' : World, (W.cell? ⟨G1, i * 4, none⟩ = some (.int .u64 (c1 : Int)) ∧ W.cell? ⟨G1, i * 4 + 1, none⟩ = some (.int .u64 (q1 : Int)) ∧ W.cell? ⟨G1, i * 4 + 2, none⟩ = some (.slice t1 l1 z1) ∧ W.cell? ⟨G1, i * 4 + 3, none⟩ = some (.slice aa1 k1 ac1) ∧ W.cell? ⟨G2, i * 4, none⟩ = some (.int .u64 (c2 : Int)) ∧ W.cell? ⟨G2, i * 4 + 1, none⟩ = some (.int .u64 (q2 : Int)) ∧ W.cell? ⟨G2, i * 4 + 2, none⟩ = some (.slice t2 l2 z2) ∧ W.cell? ⟨G2, i * 4 + 3, none⟩ = some (.slice aa2 k2 ac2)) → Below W.heap.size W W' → (W'.cell? ⟨G1, i * 4, none⟩ = some (.int .u64 (c1 : Int)) ∧ W'.cell? ⟨G1, i * 4 + 1, none⟩ = some (.int .u64 (q1 : Int)) ∧ W'.cell? ⟨G1, i * 4 + 2, none⟩ = some (.slice t1 l1 z1) ∧ W'.cell? ⟨G1, i * 4 + 3, none⟩ = some (.slice aa1 k1 ac1) ∧ W'.cell? ⟨G2, i * 4, none⟩ = some (.int .u64 (c2 : Int)) ∧ W'.cell? ⟨G2, i * 4 + 1, none⟩ = some (.int .u64 (q2 : Int)) ∧ W'.cell? ⟨G2, i * 4 + 2, none⟩ = some (.slice t2 l2 z2) ∧ W'.cell? ⟨G2, i * 4 + 3, none⟩ = some (.slice aa2 k2 ac2)) := fun W W' h hb =>
                      ⟨(hb.cell (World.block_lt_of_cell? W _ h.1)).trans h.1, (hb.cell (World.block_lt_of_cell? W _ h.2.1)).trans h.2.1, (hb.cell (World.block_lt_of_cell? W _ h.2.2.1)).trans h.2.2.1, (hb.cell (World.block_lt_of_cell? W _ h.2.2.2.1)).trans h.2.2.2.1, (hb.cell (World.block_lt_of_cell? W _ h.2.2.2.2.1)).trans h.2.2.2.2.1, (hb.cell (World.block_lt_of_cell? W _ h.2.2.2.2.2.1)).trans h.2.2.2.2.2.1, (hb.cell (World.block_lt_of_cell? W _ h.2.2.2.2.2.2.1)).trans h.2.2.2.2.2.2.1, (hb.cell (World.block_lt_of_cell? W _ h.2.2.2.2.2.2.2)).trans h.2.2.2.2.2.2.2⟩
                    clear e0 e1 e2 e3 d0 d1 d2 d3 hr1 hr2 at1 at2 els1b els2 own1b own2 hrq hp hp' hgn nn
                    go_wp2
                    go_region_held3 (fun W => W.cell? ⟨G1, i * 4, none⟩ = some (.int .u64 (c1 : Int)) ∧ W.cell? ⟨G1, i * 4 + 1, none⟩ = some (.int .u64 (q1 : Int)) ∧ W.cell? ⟨G1, i * 4 + 2, none⟩ = some (.slice t1 l1 z1) ∧ W.cell? ⟨G1, i * 4 + 3, none⟩ = some (.slice aa1 k1 ac1) ∧ W.cell? ⟨G2, i * 4, none⟩ = some (.int .u64 (c2 : Int)) ∧ W.cell? ⟨G2, i * 4 + 1, none⟩ = some (.int .u64 (q2 : Int)) ∧ W.cell? ⟨G2, i * 4 + 2, none⟩ = some (.slice t2 l2 z2) ∧ W.cell? ⟨G2, i * 4 + 3, none⟩ = some (.slice aa2 k2 ac2))
                      (first | exact HS.out | exact eight_on _ _ (by assumption) hb2)
                      ((go_at_call 10; (with_reducible refine hsame.mono ?_); rintro e w11 ⟨rfl, hb2⟩))
                    go_wp2
                    go_roundw
                    case rel => exact ⟨i + 1, by omega, by go_num, hbd.trans (hb2.mono hbd.size)⟩
                    case measure => simp [intOf]; omega
                  · obtain rfl : x = i := by omega
                    have stA := st1b.below hbr
                    have stB := st2.below hbr
                    obtain ⟨_, hpf, ⟨qa, hqa, ca⟩, _⟩ := stA
                    obtain ⟨_, hpf2, ⟨qb, hqb, cb⟩, _⟩ := stB
                    obtain ⟨R1, hR1⟩ : ∃ R1, R1 = n - pf := ⟨_, rfl⟩
                    obtain ⟨R2, hR2⟩ : ∃ R2, R2 = K - pf := ⟨_, rfl⟩
                    have hKK := hKh.out
                    have hR12 : R2 = R1 + n' := by omega
                    have hwR : IntKind.i64.wrap ((R1 : Int) + (n' : Int)) = (R2 : Int) := by rw [IntKind.wrap_i64]; omega
                    have hle12 : (R1 : Int) ≤ (R2 : Int) := by omega
                    rw [← hR1] at ca hqa
                    rw [← hR2] at cb hqb
                    have rdA : Rd (some ⟨B, qa, none⟩) R1 (num f pf) wr := (hBuf.below hbr).rd (by rcases hqa with h | h; exact .inl h; exact .inr (by rw [h])) (by omega)
                    have rdB : Rd (some ⟨w3.heap.size, qb, none⟩) R1 (num (jn n f g) pf) wr := (hBufJ.below hbr).rd (by rcases hqb with h | h; exact .inl (by omega); exact .inr (by rw [h])) (by omega)
                    have h12a := equal_any (some ⟨w3.heap.size, qb, none⟩) (some ⟨B, qa, none⟩) R2 R1 R1 _ _ wr (by omega) rdB rdA (fun m hm => by unfold num; rw [hag.eq (pf + m) (by omega)])
                    have rdT := ((c2b.below hbr).rd)
                    have rdC : ∀ o, (n' = 0 ∨ o = qb + R1) → ∀ wz, Below wr.heap.size wr wz → Rd (some ⟨w3.heap.size, o, none⟩) n' (fun m => ((g m).toNat : Int)) wz := fun o ho wz hz h0 => by
                      refine ⟨w3.heap.size, o, rfl, fun m hm => ?_⟩
                      have hqb' : qb = pf := hqb.resolve_left (by omega)
                      have := ((hBufJ.below hbr).below hz) (pf + R1 + m) (by omega)
                      rw [show o + m = pf + R1 + m by omega, this]
                      unfold jn
                      rw [if_neg (by omega), show pf + R1 + m - n = m by omega]
                    have hR12h : Hid (R2 = R1 + n') := hR12
                    have hRb : R2 ≤ 1048576 := by omega
                    clear hR1 hR2 hKK hR12 els1b els2 own1b own2 st1b st2 hqa hqb hBuf hBufJ c2b rdA rdB
                    by_cases hz : n' = 0
                    · have hRR : R2 = R1 := by have := hR12h.out; omega
                      subst hRR
                      have hwR0 : IntKind.i64.wrap (R2 : Int) = (R2 : Int) := by rw [IntKind.wrap_i64]; omega
                      go_wp2_with (first
                        | (go_at_call 11; (with_reducible refine (rest_11 w6.heap.size _ wr ca).mono ?_); rintro e w11 ⟨rfl, hw⟩; obtain rfl := hw.symm)
                        | (go_at_call 11; (with_reducible refine (rest_11 (w6.heap.size + 1) _ wr cb).mono ?_); rintro e w11 ⟨rfl, hw⟩; obtain rfl := hw.symm)
                        | (go_at_call 12; (with_reducible refine h12a.mono ?_); rintro e w12 ⟨rfl, hb12⟩; have h12b := equal_none (some ⟨w3.heap.size, qb, none⟩) a2 0 0 w12)
                        | (go_at_call 12; (with_reducible refine h12b.mono ?_); rintro e w13 ⟨rfl, hb13⟩))
                      go_ret
                      exact ⟨rfl, (hw10.trans (hbr.mono hw10.size)).trans ((hb12.mono (Nat.le_trans hw10.size hbr.size)).trans (hb13.mono (Nat.le_trans hw10.size (Nat.le_trans hbr.size hb12.size))))⟩
                    · have hRR : (R1 : Int) < (R2 : Int) := by have := hR12h.out; omega
                      have hRz : R2 - R1 ≠ 0 := by have := hR12h.out; omega
                      have hRd : Hid (R2 - R1 = n') := (by show R2 - R1 = n'; have := hR12h.out; omega)
                      go_wp2_with (first
                        | (go_at_call 11; (with_reducible refine (rest_11 w6.heap.size _ wr ca).mono ?_); rintro e w11 ⟨rfl, hw⟩; obtain rfl := hw.symm)
                        | (go_at_call 11; (with_reducible refine (rest_11 (w6.heap.size + 1) _ wr cb).mono ?_); rintro e w11 ⟨rfl, hw⟩; obtain rfl := hw.symm)
                        | (go_at_call 12; (with_reducible refine h12a.mono ?_); rintro e w12 ⟨rfl, hb12⟩; have h12c := equal_any (some ⟨w3.heap.size, qb + R1, none⟩) a2 n' n' n' _ _ w12 (by omega) (rdC (qb + R1) (.inr rfl) w12 hb12) (rdT.below hb12) (fun _ _ => rfl); have h12b : Calls Tryf.prog 12 #[.slice (some ⟨w3.heap.size, qb + R1, none⟩) (R2 - R1) (R2 - R1), .slice a2 n' n'] w12 (fun e w' => e = .returned (.bool true) ∧ Below w12.heap.size w12 w') := by rw [hRd.out]; exact h12c)
                        | (go_at_call 12; (with_reducible refine h12b.mono ?_); rintro e w13 ⟨rfl, hb13⟩))
                      go_ret
                      exact ⟨rfl, (hw10.trans (hbr.mono hw10.size)).trans ((hb12.mono (Nat.le_trans hw10.size hbr.size)).trans (hb13.mono (Nat.le_trans hw10.size (Nat.le_trans hbr.size hb12.size))))⟩
            · have hfit' : (m : Int) < (x : Int) * 24 := by omega
              rw [if_neg hfit] at hct
              have hcth : Hid (ct n f 24 (some 0) = none) := hct
              clear hct
              go_wp2_with (first
                | (go_at_call 6
                   (with_reducible refine h6.mono ?_)
                   rintro e w6 ⟨rfl, hb6⟩
                   have hF6 : F.answers w6.tape := by rw [hb6.tape]; exact hF5
                   have hS6 := sen_below hS5 hb6
                   have c36 := c3.below hb6
                   have hJ6 := hJ.below hb6
                   have hz6 := hb6.size
                   obtain ⟨B, hBn, hd1, hpair⟩ := dec_pair F a3 n K w3.heap.size w2.heap.size f (jn n f g) w6 hF6 hS6 c36 (by omega) hJ6 (by omega) (by omega) (by omega)
                   unfold Dec8 at hd1)
                | (go_at_call 7; (with_reducible refine (new_7 _ _ _ _).mono ?_); rintro e w7 ⟨rfl, rfl⟩)
                | (go_at_call 8
                   (with_reducible refine hd1.mono ?_)
                   rintro e w9 ⟨u1, rfl, v1, n1, xs1, hv1, own1, z1, p1, st1, g1, els1⟩
                   injection hv1 with hv1
                   subst hv1
                   obtain ⟨x1, y1, rfl⟩ := slice_of own1
                   obtain rfl := z1 hcth.out
                   have hd2 := hpair w9 g1
                   unfold Dec8 at hd2
                   rw [hcth.out] at st1
                   obtain ⟨_, _, t1, e1, k1⟩ := st1)
                | (go_at_call 8
                   (with_reducible refine hd2.mono ?_)
                   rintro e w10 ⟨u2, rfl, v2, n2, xs2, hv2, own2, z2', p2, st2, g2, els2⟩
                   have hk10 : w10.cell? ⟨w6.heap.size, 1, none⟩ = some (.iface t1 e1) := by
                     rw [World.cell?_of_block (w := w9) (a := ⟨w6.heap.size, 1, none⟩) (g2.block w6.heap.size (World.block_lt_of_cell? w9 ⟨w6.heap.size, 1, none⟩ k1) (fun e => by injection e with e; omega))]
                     exact k1)
                | (go_at_call 9; refine (err_9 w6.heap.size _ w10 hk10).mono ?_; rintro e w11 ⟨rfl, hw⟩; obtain rfl := hw.symm))
              go_ret
              refine ⟨rfl, ?_⟩
              have hz8 : w.heap.size ≤ w6.heap.size := Nat.le_trans hw5.size hb6.size
              have q6 : Below w.heap.size w w6 := hw5.trans (hb6.mono hw5.size)
              have q8 := (q6.alloc hz8 (.cells #[.slice a3 n n, .nilIface] 42)).alloc (by simp; omega) (.cells #[.slice (some ⟨w3.heap.size, 0, none⟩) K K, .nilIface] 42)
              have q9 := q8.grown g1 (by simp; omega) (fun q hq => by injection hq with hq; omega)
              exact q9.grown g2 (by have := g1.size; simp at this; omega) (fun q hq => by injection hq with hq; omega)
          · have h4n' : (n : Int) < 4 := by omega
            have hcth : Hid (ct n f 24 (some 0) = none) := (by show ct n f 24 (some 0) = none; simp [ct, h4n])
            have hb6 : Below w5.heap.size w5 w5 := Below.refl _ _
            have hF6 : F.answers w5.tape := by rw [hb6.tape]; exact hF5
            have hS6 := sen_below hS5 hb6
            have c36 := c3.below hb6
            have hJ6 := hJ.below hb6
            have hz6 := hb6.size
            obtain ⟨B, hBn, hd1, hpair⟩ := dec_pair F a3 n K w3.heap.size w2.heap.size f (jn n f g) w5 hF6 hS6 c36 (by omega) hJ6 (by omega) (by omega) (by omega)
            unfold Dec8 at hd1
            go_wp2_with (first
              | (go_at_call 7; (with_reducible refine (new_7 _ _ _ _).mono ?_); rintro e w7 ⟨rfl, rfl⟩)
              | (go_at_call 8
                 (with_reducible refine hd1.mono ?_)
                 rintro e w9 ⟨u1, rfl, v1, n1, xs1, hv1, own1, z1, p1, st1, g1, els1⟩
                 injection hv1 with hv1
                 subst hv1
                 obtain ⟨x1, y1, rfl⟩ := slice_of own1
                 obtain rfl := z1 hcth.out
                 have hd2 := hpair w9 g1
                 unfold Dec8 at hd2
                 rw [hcth.out] at st1
                 obtain ⟨_, _, t1, e1, k1⟩ := st1)
              | (go_at_call 8
                 (with_reducible refine hd2.mono ?_)
                 rintro e w10 ⟨u2, rfl, v2, n2, xs2, hv2, own2, z2', p2, st2, g2, els2⟩
                 have hk10 : w10.cell? ⟨w5.heap.size, 1, none⟩ = some (.iface t1 e1) := by
                   rw [World.cell?_of_block (w := w9) (a := ⟨w5.heap.size, 1, none⟩) (g2.block w5.heap.size (World.block_lt_of_cell? w9 ⟨w5.heap.size, 1, none⟩ k1) (fun e => by injection e with e; omega))]
                   exact k1)
              | (go_at_call 9; refine (err_9 w5.heap.size _ w10 hk10).mono ?_; rintro e w11 ⟨rfl, hw⟩; obtain rfl := hw.symm))
            go_ret
            refine ⟨rfl, ?_⟩
            have hz8 : w.heap.size ≤ w5.heap.size := Nat.le_trans hw5.size hb6.size
            have q6 : Below w.heap.size w w5 := hw5.trans (hb6.mono hw5.size)
            have q8 := (q6.alloc hz8 (.cells #[.slice a3 n n, .nilIface] 42)).alloc (by simp; omega) (.cells #[.slice (some ⟨w3.heap.size, 0, none⟩) K K, .nilIface] 42)
            have q9 := q8.grown g1 (by simp; omega) (fun q hq => by injection hq with hq; omega)
            exact q9.grown g2 (by have := g1.size; simp at this; omega) (fun q hq => by injection hq with hq; omega)
end Go.Proofs.Qxb6608948aFmt
