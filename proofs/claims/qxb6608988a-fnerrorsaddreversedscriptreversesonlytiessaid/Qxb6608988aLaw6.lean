/-
  FnErrorsAddReversedScriptReversesOnlyTies: the walk.
-/
import Derived.Test.Qxb6608988aMem
import Derived.Test.Qxb6608988aBndB
namespace Go.Proofs.Qxb6608988a
set_option linter.unusedSimpArgs false
set_option linter.unusedVariables false
open Go.RowKit
variable {L C : Nat → Int} {M : Nat → ByteArray}

/-- Fault k's cells. -/
def G3 (L C : Nat → Int) (M : Nat → ByteArray) (b o k : Nat) (W : World) : Prop :=
  W.cell? ⟨b, o + k * 3, none⟩ = some (.int .i64 (L k)) ∧ W.cell? ⟨b, o + k * 3 + 1, none⟩ = some (.int .i64 (C k)) ∧ W.cell? ⟨b, o + k * 3 + 2, none⟩ = some (.string (M k))
theorem G3.on {b o k B : Nat} {W W' : World} (h : G3 L C M b o k W) (hb : Below B W W') (hB : b < B) : G3 L C M b o k W' :=
  ⟨(hb.cell (p := ⟨b, _, none⟩) hB).trans h.1, (hb.cell (p := ⟨b, _, none⟩) hB).trans h.2.1, (hb.cell (p := ⟨b, _, none⟩) hB).trans h.2.2⟩
theorem G3.alloc {b o k : Nat} {W : World} (h : G3 L C M b o k W) (ob : Obj) : G3 L C M b o k (W.alloc ob) :=
  h.on ((Below.refl W.heap.size W).alloc (Nat.le_refl _) ob) (World.block_lt_of_cell? W _ h.1)
theorem G3.set {b o k P q : Nat} {W : World} (h : G3 L C M b o k W) (hne : b < P) (u : Value) : G3 L C M b o k (W.setCell ⟨P, q, none⟩ u) :=
  h.on ((Below.refl P W).setCell (Nat.le_refl _) u) hne

theorem take_op {P : Program} {md : Region.Mode} {ops : Array Oper} {Q : Exit → Act → World → Prop} {S : World → Prop} (i d : Nat) {oi : Oper} {v : Value} {fuel : Nat} {listed : Array Bool} {a : Act} {w : World} (hi : ops[i]? = some oi) (hd : oi.dst = some d)
    (hs : Region.noSelect ops = true) (hf : Region.free md ops listed i = true) (hr : (Region.ready md ops listed).contains i = true)
    (hQ : ∀ c a w, Q (.panic c) (a.put (some d) v) w → Q (.panic c) a w) (hy : YieldsIf P ops S oi v a) (hS : S w)
    (h : wpAnyH P md ops Q S fuel (listed.setIfInBounds i true) (a.put (some d) v) w) : wpAnyH P md ops Q S (fuel + 1) listed a w :=
  wpAnyH_take hi hs hf hr (by rw [hd]; exact hQ) hy hS (by rw [hd]; exact h)

theorem own_slice {w : World} {B : Nat} {v : Value} {n : Nat} {xs : List Value} (h : w.ownsRow B 51 1 v n xs) : ∃ a c, v = .slice a n c := by
  rcases h.2 with ⟨h1, h2⟩ | ⟨g, cap, cur, h1, _⟩
  · exact ⟨none, 0, by rw [h1, h2]⟩
  · exact ⟨_, _, h1⟩
theorem own_block {w : World} {B : Nat} {a : Option Addr} {c n : Nat} {xs : List Value} (h : w.ownsRow B 51 1 (.slice a n c) n xs) (hn : 0 < n) : ∃ g, a = some ⟨g, 0, none⟩ := by
  rcases h.2 with ⟨h1, h2⟩ | ⟨g, cap, cur, h1, _⟩
  · omega
  · injection h1 with h1; exact ⟨g, h1⟩

theorem two_new (w : World) (A1 A2 : Array Value) : ((w.alloc (.cells A1 53)).alloc (.cells A2 53)).heap[w.heap.size]? = some (.cells A1 53 (0, 0)) ∧ ((w.alloc (.cells A1 53)).alloc (.cells A2 53)).heap[w.heap.size + 1]? = some (.cells A2 53 (0, 0)) := by
  refine ⟨by rw [Below.heap_alloc _ _ _ (by simp)]; exact heap_alloc_new w _, ?_⟩
  have := heap_alloc_new (w.alloc (.cells A1 53)) (.cells A2 53)
  rwa [show (w.alloc (.cells A1 53)).heap.size = w.heap.size + 1 by simp] at this
/-- A fault in a block of its own. -/
def Cp (l c : Int) (m : ByteArray) (B : Nat) (W : World) : Prop :=
  W.cell? ⟨B, 0, none⟩ = some (.int .i64 l) ∧ W.cell? ⟨B, 1, none⟩ = some (.int .i64 c) ∧ W.cell? ⟨B, 2, none⟩ = some (.string m)
theorem Cp.of {l c : Int} {m : ByteArray} {B : Nat} {W : World} (h : W.heap[B]? = some (.cells #[.int .i64 l, .int .i64 c, .string m] 53 (0, 0))) : Cp l c m B W :=
  ⟨by rw [cell_of_row _ _ _ _ _ _ h]; rfl, by rw [cell_of_row _ _ _ _ _ _ h]; rfl, by rw [cell_of_row _ _ _ _ _ _ h]; rfl⟩

theorem run_step {n s e : Nat} (he : e < n) (hs : s < e) (hrun : ∀ q, s < q → q < e → bf L C (fw L C n s) (fw L C n q) = false) (h : bf L C (fw L C n s) (fw L C n e) = true) : bf L C (fw L C n (e - 1)) (fw L C n e) = true := by
  by_cases hq : e - 1 = s
  · rw [hq]; exact h
  · have ha := fw_ahead (L := L) (C := C) (n := n) (p := s) (q := e - 1) (by omega) (by omega)
    have hb : ¬ (bf L C (fw L C n s) (fw L C n (e - 1)) = true) := by rw [hrun (e - 1) (by omega) (by omega)]; simp
    rw [bf_iff] at hb h ⊢
    rw [ahead_iff] at ha
    omega

set_option maxRecDepth 8000 in
set_option maxHeartbeats 100000000 in
theorem law6_some (a : Option Addr) (n c : Nat) (w : World) (hn : n ≤ 4096) (r : Fl a n L C M w) (hnil : a = none → n = 0) :
    Calls Try.prog 6 #[.slice a n c] w fun e w' => e = .returned (.bool true) ∧ Below w.heap.size w w' := by
  have h26 := bytes_26 a n c L C M w r
  have h23 := fault_23 a n c L C M w (by omega) r
  have hn' : (n : Int) ≤ 4096 := by omega
  obtain ⟨MM, hM, hmk⟩ := make_ptrs n hn
  have hB0 : Base L C M w.heap.size n 0 (fun _ => 0) (w.alloc (.cells MM 51)) := by
    refine ⟨fun c hc => ?_, fun m hm => by omega, fun m hm => by omega, fun m hm => by omega, fun m m' _ h => by omega, by simp⟩
    have h := heap_alloc_new w (.cells MM 51)
    refine ⟨?_, frozen_of_row _ _ c _ _ h⟩
    rw [cell_of_row _ _ c _ _ _ h, Array.getElem?_eq_getElem (by omega)]; rfl
  have hb0 : Below w.heap.size w (w.alloc (.cells MM 51)) := (Below.refl _ w).alloc (Nat.le_refl _) _
  go_enter Try.func6, Try.ntmps6
  go_wp2_with (first
    | (go_at_call 26; refine h26.mono ?_; rintro e w' ⟨⟨b, rfl⟩, hw⟩; obtain rfl := hw.symm)
    | (go_at_call 23; refine h23.mono ?_; rintro e w' ⟨⟨s, rfl⟩, hw⟩; obtain rfl := hw.symm))
  all_goals first
    | (go_ret; exact ⟨rfl, Below.refl _ _⟩)
    | skip
  go_loopw [5] (fun i wr => ∃ (k : Nat) (A : Nat → Nat), k ≤ n ∧ i = .int .i64 k ∧ Base L C M w.heap.size n k A wr ∧ Below w.heap.size w wr) (fun i _ => n - (intOf i).toNat)
  case atStart => exact ⟨0, fun _ => 0, by omega, rfl, hB0, hb0⟩
  case round =>
    obtain ⟨k, A, hk, rfl, hBs, hbl⟩ := hrel
    by_cases hlt : k < n
    · have hlt' : (k : Int) < (n : Int) := by omega
      obtain ⟨b, o, rfl, hc⟩ := r (by omega)
      obtain ⟨h1, h2, h3, h4⟩ := hc k hlt
      have hbw : b < w.heap.size := World.block_lt_of_cell? w _ h1
      have hF : Hid (G3 L C M b o k wr.drew) := (show G3 L C M b o k wr from (show G3 L C M b o k w from ⟨h1, h2, h3⟩).on hbl hbw)
      obtain ⟨u0, k0⟩ := Option.isSome_iff_exists.1 (hBs.own k hlt).1
      have f0 := (hBs.own k hlt).2
      have hbig := hBs.big
      have e2 : ((wr.alloc (.cells #[.int .i64 (L k), .int .i64 (C k)] 30)).alloc (.cells #[.int .i64 (L k), .int .i64 (C k), .string (M k)] 55)).heap[w.heap.size]? = wr.heap[w.heap.size]? := by
        rw [Below.heap_alloc _ _ _ (by simp; omega), Below.heap_alloc _ _ _ (by omega)]
      have k2 : ((wr.alloc (.cells #[.int .i64 (L k), .int .i64 (C k)] 30)).alloc (.cells #[.int .i64 (L k), .int .i64 (C k), .string (M k)] 55)).cell? ⟨w.heap.size, k, none⟩ = some u0 := (World.cell?_of_block (w := wr) (a := ⟨w.heap.size, k, none⟩) e2).trans k0
      have f2 : ((wr.alloc (.cells #[.int .i64 (L k), .int .i64 (C k)] 30)).alloc (.cells #[.int .i64 (L k), .int .i64 (C k), .string (M k)] 55)).frozen? ⟨w.heap.size, k, none⟩ = false := (World.frozen?_of_block (w := wr) (a := ⟨w.heap.size, k, none⟩) e2).trans f0
      have k3 : ((wr.drew.alloc (.cells #[.int .i64 (L k), .int .i64 (C k)] 30)).alloc (.cells #[.int .i64 (L k), .int .i64 (C k), .string (M k)] 55)).cell? ⟨w.heap.size, k, none⟩ = some u0 := k2
      have f3 : ((wr.drew.alloc (.cells #[.int .i64 (L k), .int .i64 (C k)] 30)).alloc (.cells #[.int .i64 (L k), .int .i64 (C k), .string (M k)] 55)).frozen? ⟨w.heap.size, k, none⟩ = false := f2
      clear e2
      clear hc h1 h2 h3 h4
      go_wp2
      go_region_held3 (fun W => W.cell? ⟨b, o + k * 3, none⟩ = some (.int .i64 (L k)) ∧ W.cell? ⟨b, o + k * 3 + 1, none⟩ = some (.int .i64 (C k)) ∧ W.cell? ⟨b, o + k * 3 + 2, none⟩ = some (.string (M k)))
        (first | exact hF.out | exact G3.set (show G3 L C M b o k _ by assumption) hbw _ | exact G3.alloc (show G3 L C M b o k _ by assumption) _)
        ((go_at_call 10; refine (pos_10 (L k) (C k) _).mono ?_; rintro e w1 ⟨rfl, rfl⟩))
      obtain ⟨W2, hW2⟩ : ∃ W2, W2 = (made L C M w.heap.size k wr).drew := ⟨_, rfl⟩
      obtain ⟨A2, hA2⟩ : ∃ A2, A2 = upd A k (wr.heap.size + 1) := ⟨_, rfl⟩
      have hmg := made_grown (L := L) (C := C) (M := M) (P := w.heap.size) (k := k) (w := wr)
      have hg2 : wr.grownBy W2 (some w.heap.size) := by rw [hW2]; exact ⟨hmg.os, hmg.tape, hmg.output, hmg.size, hmg.block⟩
      have hB2 : Base L C M w.heap.size n (k + 1) A2 W2 := by
        rw [hW2, hA2]
        exact (hBs.next hlt).grown (row := none) ⟨rfl, rfl, rfl, Nat.le_refl _, fun _ _ _ => rfl⟩ (by simp) (fun _ _ => by simp)
      have hbl2 : Below w.heap.size w W2 := hbl.grown hg2 (by omega) (fun q hq => by injection hq with hq; omega)
      unfold made at hW2
      rw [← hW2]
      clear hW2 k0 f0 k2 f2 k3 f3 hF
      go_wp2
      go_roundw
      case rel => exact ⟨k + 1, A2, by omega, by go_num, hB2, hbl2⟩
      case measure => simp [intOf]; omega
    · obtain rfl : n = k := by omega
      clear hB0 hb0 hmk h26 h23
      obtain ⟨Wa, hWa⟩ : ∃ Wa, Wa = wr := ⟨_, rfl⟩
      subst hWa
      go_wp2
      go_loopw [6, 7] (fun v i wr => ∃ k : Nat, k ≤ n ∧ i = .int .i64 k ∧ Base L C M w.heap.size n n A wr ∧ wr.ownsRow (w.heap.size + 1) 51 1 v k ((srt L C k).map (ptr A)) ∧ Below w.heap.size w wr) (fun _ i _ => n - (intOf i).toNat)
      case atStart => exact ⟨0, by omega, rfl, hBs, World.ownsRow_nil _ _ _ _, hbl⟩
      case round =>
        clear hBs hbl
        obtain ⟨k, hk, rfl, hBs, hown, hbl⟩ := hrel
        by_cases hlt : k < n
        · have hlt' : (k : Int) < (n : Int) := by omega
          have hown2 : wr.ownsRow (w.heap.size + 1) 51 1 u6 (srt L C k).length ((srt L C k).map (ptr A)) := by rw [srt_len]; exact hown
          have hadd := add_list L C (w.heap.size + 1) k u6 (srt L C k) A wr (by rw [srt_len]; omega) hBs.big hown2 (hBs.blk k (by omega)).plc (fun j hj => (hBs.blk j (by have := srt_mem.1 hj; omega)).plc)
          have hrw := hBs.row k (by omega)
          have hpk : ptr A k = .pointer (some ⟨A k, 0, none⟩) := rfl
          rw [hpk] at hadd hrw
          have hnp : u6.ownBlock ≠ some w.heap.size := fun e => by have := (hown.lt _ e).1; omega
          have hne2 : ∀ m, m < n → u6.ownBlock ≠ some (A m) := fun m hm => (hBs.blk m hm).ne hown2
          go_wp2_with (go_at_call 24; refine hadd.mono ?_; rintro e w3 ⟨v3, rfl, hown3, hg3⟩)
          go_roundw
          case rel =>
            refine ⟨k + 1, by omega, by go_num, hBs.grown hg3 hnp hne2, ?_, hbl.grown hg3 (by have := hBs.big; omega) (fun q hq => by have := (hown2.lt _ hq).1; omega)⟩
            rw [srt_len] at hown3
            exact hown3
          case measure => simp [intOf]; omega
        · obtain rfl : n = k := by omega
          obtain ⟨sa, sc, rfl⟩ := own_slice hown
          obtain ⟨Wb, hWb⟩ : ∃ Wb, Wb = wr := ⟨_, rfl⟩
          subst hWb
          go_wp2
          go_loopw [8, 9] (fun v i wr => ∃ k : Nat, k ≤ n ∧ i = .int .i64 ((k : Int) - 1) ∧ Base L C M w.heap.size n n A wr ∧ wr.ownsRow (w.heap.size + 1) 51 1 (.slice sa n sc) n ((srt L C n).map (ptr A)) ∧ wr.ownsRow Wb.heap.size 51 1 v (n - k) ((rsr L C n (n - k)).map (ptr A)) ∧ Below w.heap.size w wr ∧ Wb.heap.size ≤ wr.heap.size) (fun _ i _ => (intOf i + 1).toNat)
          case atStart =>
            refine ⟨n, Nat.le_refl _, by go_num, hBs, hown, ?_, hbl, Nat.le_refl _⟩
            rw [Nat.sub_self]; exact World.ownsRow_nil _ _ _ _
          case round =>
            have hlt6 := hown.lt
            have hWbig := hBs.big
            clear hBs hbl hown
            obtain ⟨k, hk, rfl, hBs, hown, hrev, hbl, hsz⟩ := hrel
            by_cases hlt : 0 < k
            · obtain ⟨m, rfl⟩ : ∃ m, k = m + 1 := ⟨k - 1, by omega⟩
              rw [show ((m + 1 : Nat) : Int) - 1 = (m : Int) by omega]
              have hlt' : (m : Int) < (n : Int) := by omega
              have hlen := rsr_len (L := L) (C := C) (n := n) (k := n - (m + 1)) (by omega)
              have hrev2 : wr.ownsRow Wb.heap.size 51 1 u8 (rsr L C n (n - (m + 1))).length ((rsr L C n (n - (m + 1))).map (ptr A)) := by rw [hlen]; exact hrev
              have hadd := add_list L C Wb.heap.size m u8 (rsr L C n (n - (m + 1))) A wr (by rw [hlen]; omega) hsz hrev2 (hBs.blk m (by omega)).plc (fun j hj => (hBs.blk j (by have := (rsr_mem (n := n) (k := n - (m + 1)) (by omega)).1 hj; omega)).plc)
              have hrw := hBs.row m (by omega)
              have hpk : ptr A m = .pointer (some ⟨A m, 0, none⟩) := rfl
              rw [hpk] at hadd hrw
              have hbigw := hBs.big
              have hnp : u8.ownBlock ≠ some w.heap.size := fun e => by have := (hrev.lt _ e).1; have := hWbig; omega
              have hne2 : ∀ q, q < n → u8.ownBlock ≠ some (A q) := fun q hq => (hBs.blk q hq).ne hrev2
              have hnf : (Value.slice sa n sc).ownBlock = none ∨ (Value.slice sa n sc).ownBlock ≠ u8.ownBlock := by
                cases h : (Value.slice sa n sc).ownBlock with
                | none => exact .inl rfl
                | some g => right; intro e; have := (hrev.lt _ e.symm).1; have := (hlt6 _ h).2; omega
              go_wp2_with (go_at_call 24; refine hadd.mono ?_; rintro e w3 ⟨v3, rfl, hown3, hg3⟩)
              go_roundw
              case rel =>
                refine ⟨m, by omega, by go_num, hBs.grown hg3 hnp hne2, hown.kept hg3 hnf, ?_, hbl.grown hg3 (by omega) (fun q hq => by have := (hrev2.lt _ hq).1; omega), Nat.le_trans hsz hg3.size⟩
                · rw [hlen] at hown3
                  rw [show n - m = n - (m + 1) + 1 by omega]
                  unfold rsr
                  rw [show n - 1 - (n - (m + 1)) = m by omega]
                  exact hown3
              case measure => simp [intOf]
            · obtain rfl : k = 0 := by omega
              rw [show (((0 : Nat) : Int) - 1) = -1 from rfl]
              rw [Nat.sub_zero] at hrev
              obtain ⟨ra, rc, rfl⟩ := own_slice hrev
              obtain ⟨M1, hM1, hmk1⟩ := make_ints n hn
              obtain ⟨M2, hM2, hmk2⟩ := make_bools n hn
              obtain ⟨Wc, hWc⟩ : ∃ Wc, Wc = wr := ⟨_, rfl⟩
              subst hWc
              have hst : Mem7 L C n Wc.heap.size 0 ((Wc.alloc (.cells M1 3)).alloc (.cells M2 4)) := Mem7.start hM1 hM2
              have hbc : Below Wc.heap.size Wc ((Wc.alloc (.cells M1 3)).alloc (.cells M2 4)) := ((Below.refl _ _).alloc (Nat.le_refl _) _).alloc (by simp) _
              have hfwd : ∀ g, sa = some ⟨g, 0, none⟩ → ∀ m, m < n → Wc.cell? ⟨g, m, none⟩ = some (.pointer (some ⟨A (fw L C n m), 0, none⟩)) := fun g hg m hm => by
                rw [hg] at hown
                rw [hown.cellAt m (by omega), List.getElem?_map, fw_get hm]; rfl
              have hrvd : ∀ g, ra = some ⟨g, 0, none⟩ → ∀ m, m < n → Wc.cell? ⟨g, m, none⟩ = some (.pointer (some ⟨A (rv L C n m), 0, none⟩)) := fun g hg m hm => by
                rw [hg] at hrev
                rw [hrev.cellAt m (by omega), List.getElem?_map, rv_get hm]; rfl
              have hsg : 0 < n → ∃ g, sa = some ⟨g, 0, none⟩ := fun h => own_block hown h
              have hrg : 0 < n → ∃ g, ra = some ⟨g, 0, none⟩ := fun h => own_block hrev h
              have hFc : Fl a n L C M Wc := r.on hbl (Nat.le_refl _)
              clear hlt6 hsz hWbig
              go_wp2
              clear hmk1 hmk2
              go_loopw [12] (fun j wr => ∃ j' : Nat, j' ≤ n ∧ j = .int .i64 j' ∧ Mem7 L C n Wc.heap.size j' wr ∧ Below Wc.heap.size Wc wr) (fun j _ => n - (intOf j).toNat)
              case atStart => exact ⟨0, by omega, rfl, hst, hbc⟩
              case round =>
                clear hst hbc
                obtain ⟨j, hj, rfl, hme, hbj⟩ := hrel
                by_cases hjn : j < n
                · have hjn' : (j : Int) < (n : Int) := by omega
                  have hfl := fw_lt (L := L) (C := C) hjn
                  obtain ⟨g, rfl⟩ := hsg (by omega)
                  obtain ⟨Wd, hWd⟩ : ∃ Wd, Wd = wr := ⟨_, rfl⟩
                  subst hWd
                  go_wp2
                  go_loopw [14] (fun i wr => ∃ i' : Nat, i' ≤ fw L C n j ∧ i = .int .i64 i' ∧ Below Wd.heap.size Wd wr) (fun i _ => n - (intOf i).toNat)
                  case atStart => exact ⟨0, by omega, rfl, Below.refl _ _⟩
                  case round =>
                    obtain ⟨i, hi, rfl, hbi⟩ := hrel
                    have hin' : (i : Int) < (n : Int) := by omega
                    have hbw : Below Wc.heap.size Wc wr := hbj.trans (hbi.mono hbj.size)
                    have c1 := hfwd g rfl j hjn
                    have c2 : Wc.cell? ⟨w.heap.size, i, none⟩ = some (.pointer (some ⟨A i, 0, none⟩)) := hBs.row i (by omega)
                    have q1 := (hbw.cell (p := ⟨g, j, none⟩) (World.block_lt_of_cell? Wc _ c1)).trans c1
                    have q2 := (hbw.cell (p := ⟨w.heap.size, i, none⟩) (World.block_lt_of_cell? Wc _ c2)).trans c2
                    clear c1 c2
                    by_cases hif : i = fw L C n j
                    · subst hif
                      have HS : Hid (wr.drew.cell? ⟨g, j, none⟩ = some (.pointer (some ⟨A (fw L C n j), 0, none⟩)) ∧ wr.drew.cell? ⟨w.heap.size, fw L C n j, none⟩ = some (.pointer (some ⟨A (fw L C n j), 0, none⟩))) := ⟨q1, q2⟩
                      have heq := eql_same ⟨A (fw L C n j), 0, none⟩
                      clear q1 q2
                      have hme2 : Mem7 L C n Wc.heap.size j wr.drew := hme.on hbi.drew hme.big
                      have hn0 := hme2.next hjn
                      have s1 := hme2.seen _ hfl
                      rw [sn_no hjn] at s1
                      have s2 := (hme2.owns _ hfl).2
                      obtain ⟨u, s3⟩ := Option.isSome_iff_exists.1 ((own_other hme2.own (P := Wc.heap.size + 1) (c := fw L C n j) (by omega) (.bool true)) j hjn).1
                      have s4 := ((own_other hme2.own (P := Wc.heap.size + 1) (c := fw L C n j) (by omega) (.bool true)) j hjn).2
                      have hbn : Below Wc.heap.size Wc (noted L C n Wc.heap.size j wr.drew) := noted_below (L := L) (C := C) (n := n) (j := j) hbw.drew
                      unfold noted at hn0 hbn
                      obtain ⟨We, hWe⟩ : ∃ We, We = wr.drew := ⟨_, rfl⟩
                      rw [← hWe] at s1 s2 s3 s4 hn0 hbn
                      clear hme2
                      go_wp2
                      go_region_held3 (fun W => W.cell? ⟨g, j, none⟩ = some (.pointer (some ⟨A (fw L C n j), 0, none⟩)) ∧ W.cell? ⟨w.heap.size, fw L C n j, none⟩ = some (.pointer (some ⟨A (fw L C n j), 0, none⟩)))
                        (exact HS.out)
                        ((fail))
                      rw [← hWe]
                      clear hWe HS
                      go_wp2
                      go_roundw
                      case rel => exact ⟨j + 1, by omega, by go_num, hn0, hbn⟩
                      case measure => simp [intOf]; omega
                    · have b1 := hBs.blk (fw L C n j) hfl
                      have b2 := hBs.blk i (by omega)
                      have b1' : Blk L C M A (fw L C n j) wr.drew := (hbw.block _ (Array.getElem?_eq_some_iff.1 b1).1).trans b1
                      have b2' : Blk L C M A i wr.drew := (hbw.block _ (Array.getElem?_eq_some_iff.1 b2).1).trans b2
                      have HS : Hid (wr.drew.cell? ⟨g, j, none⟩ = some (.pointer (some ⟨A (fw L C n j), 0, none⟩)) ∧ wr.drew.cell? ⟨w.heap.size, i, none⟩ = some (.pointer (some ⟨A i, 0, none⟩)) ∧ (binOp .eql 51 (.pointer (some ⟨A (fw L C n j), 0, none⟩)) (.pointer (some ⟨A i, 0, none⟩))).run Try.prog wr.drew = .ok (.bool false) wr.drew) :=
                        ⟨q1, q2, eql_other b1' b2' (hBs.apart hfl (by omega) (fun e => hif e.symm))⟩
                      clear q1 q2 b1 b2 b1' b2'
                      go_wp2
                      go_region_held3 (fun W => W.cell? ⟨g, j, none⟩ = some (.pointer (some ⟨A (fw L C n j), 0, none⟩)) ∧ W.cell? ⟨w.heap.size, i, none⟩ = some (.pointer (some ⟨A i, 0, none⟩)) ∧ (binOp .eql 51 (.pointer (some ⟨A (fw L C n j), 0, none⟩)) (.pointer (some ⟨A i, 0, none⟩))).run Try.prog W = .ok (.bool false) W)
                        (exact HS.out)
                        ((fail))
                      go_wp2
                      go_roundw
                      case rel => exact ⟨i + 1, by omega, by go_num, by first | exact hbi | exact hbi.drew⟩
                      case measure => simp [intOf]; omega
                · obtain rfl : n = j := by omega
                  have hFw : Fl a n L C M wr := hFc.on hbj (Nat.le_refl _)
                  have hidx : ∀ m, m < n → wr.cell? ⟨Wc.heap.size, m, none⟩ = some (.int .i64 (fw L C n m)) := hme.idx
                  have hbwf : Below w.heap.size w wr := hbl.trans (hbj.mono hbl.size)
                  have hfwf : ∀ g, sa = some ⟨g, 0, none⟩ → ∀ m, m < n → wr.cell? ⟨g, m, none⟩ = some (.pointer (some ⟨A (fw L C n m), 0, none⟩)) := fun g hg m hm => (hbj.cell (p := ⟨g, m, none⟩) (World.block_lt_of_cell? Wc _ (hfwd g hg m hm))).trans (hfwd g hg m hm)
                  have hrvf : ∀ g, ra = some ⟨g, 0, none⟩ → ∀ m, m < n → wr.cell? ⟨g, m, none⟩ = some (.pointer (some ⟨A (rv L C n m), 0, none⟩)) := fun g hg m hm => (hbj.cell (p := ⟨g, m, none⟩) (World.block_lt_of_cell? Wc _ (hrvd g hg m hm))).trans (hrvd g hg m hm)
                  clear hme hfwd hrvd hFc hBs hown hrev
                  obtain ⟨Wf, hWf⟩ : ∃ Wf, Wf = wr := ⟨_, rfl⟩
                  subst hWf
                  go_wp2
                  go_loopw [15] (fun j wr => ∃ j' : Nat, 1 ≤ j' ∧ (j' ≤ n ∨ j' = 1) ∧ j = .int .i64 j' ∧ Below Wf.heap.size Wf wr) (fun j _ => n - (intOf j).toNat)
                  case atStart => exact ⟨1, by omega, by omega, rfl, Below.refl _ _⟩
                  case round =>
                    obtain ⟨j, hj1, hj2, rfl, hbj2⟩ := hrel
                    by_cases hjn : j < n
                    · obtain ⟨p, hpj⟩ : ∃ p, p + 1 = j := ⟨j - 1, by omega⟩
                      have hjn' : (j : Int) < (n : Int) := by omega
                      have hpn : p < n := by omega
                      have hpn' : (p : Int) < (n : Int) := by omega
                      have hwk : IntKind.i64.wrap ((j : Int) - 1) = (p : Int) := by rw [IntKind.wrap_i64]; omega
                      obtain ⟨b, o, rfl, hc⟩ := hFw (by omega)
                      have f1 := fw_lt (L := L) (C := C) hpn
                      have f2 := fw_lt (L := L) (C := C) hjn
                      have f1' : (fw L C n p : Int) < (n : Int) := by omega
                      have f2' : (fw L C n j : Int) < (n : Int) := by omega
                      have hbw : b < Wf.heap.size := World.block_lt_of_cell? Wf _ (hc _ f1).1
                      have hXw : Wc.heap.size < Wf.heap.size := World.block_lt_of_cell? Wf _ (hidx p hpn)
                      obtain ⟨x1, x2, x3⟩ : G3 L C M b o (fw L C n p) wr := (show G3 L C M b o (fw L C n p) Wf from ⟨(hc _ f1).1, (hc _ f1).2.1, (hc _ f1).2.2.1⟩).on hbj2 hbw
                      obtain ⟨y1, y2, y3⟩ : G3 L C M b o (fw L C n j) wr := (show G3 L C M b o (fw L C n j) Wf from ⟨(hc _ f2).1, (hc _ f2).2.1, (hc _ f2).2.2.1⟩).on hbj2 hbw
                      have i1 := (hbj2.cell (p := ⟨Wc.heap.size, p, none⟩) hXw).trans (hidx p hpn)
                      have i2 := (hbj2.cell (p := ⟨Wc.heap.size, j, none⟩) hXw).trans (hidx j hjn)
                      clear hc
                      have h1w : ∀ (q : Addr) (v : Value), wr.cell? q = some v → (wr.alloc (.cells #[.int .i64 (L (fw L C n p)), .int .i64 (C (fw L C n p)), .string (M (fw L C n p))] 53)).cell? q = some v := fun q v h => (((Below.refl wr.heap.size wr).alloc (Nat.le_refl _) _).cell (World.block_lt_of_cell? wr _ h)).trans h
                      have i2a := h1w _ _ i2
                      have y1a := h1w _ _ y1
                      have y2a := h1w _ _ y2
                      have y3a := h1w _ _ y3
                      clear h1w
                      have hah := fw_ahead (L := L) (C := C) (n := n) (p := p) (q := j) (by omega) hjn
                      rw [ahead_iff] at hah
                      have hr1 : bf L C (fw L C n j) (fw L C n p) = false := by
                        rw [Bool.eq_false_iff]; intro h; rw [bf_iff] at h; omega
                      have p1 := less_25 (L (fw L C n j)) (C (fw L C n j)) (L (fw L C n p)) (C (fw L C n p)) (M (fw L C n j)) (M (fw L C n p))
                      have p2 := less_25 (L (fw L C n p)) (C (fw L C n p)) (L (fw L C n j)) (C (fw L C n j)) (M (fw L C n p)) (M (fw L C n j))
                      rw [show lt (L (fw L C n j)) (C (fw L C n j)) (L (fw L C n p)) (C (fw L C n p)) = bf L C (fw L C n j) (fw L C n p) from rfl, hr1] at p1
                      rw [show lt (L (fw L C n p)) (C (fw L C n p)) (L (fw L C n j)) (C (fw L C n j)) = bf L C (fw L C n p) (fw L C n j) from rfl] at p2
                      go_wp2_with (go_at_call 25; refine (p1 _).mono ?_; rintro e w1 ⟨rfl, hb1⟩)
                      have hsz1 := hbj2.size
                      have hbe : Below wr.heap.size wr w1 := (((Below.refl _ _).alloc (Nat.le_refl _) _).alloc (by simp) _).trans (hb1.mono (by simp; omega))
                      obtain ⟨t1, t2⟩ := two_new wr #[.int .i64 (L (fw L C n p)), .int .i64 (C (fw L C n p)), .string (M (fw L C n p))] #[.int .i64 (L (fw L C n j)), .int .i64 (C (fw L C n j)), .string (M (fw L C n j))]
                      have d1 : Cp (L (fw L C n p)) (C (fw L C n p)) (M (fw L C n p)) wr.heap.size w1 := Cp.of ((hb1.block _ (by simp; omega)).trans t1)
                      have d2 : Cp (L (fw L C n j)) (C (fw L C n j)) (M (fw L C n j)) (wr.heap.size + 1) w1 := Cp.of ((hb1.block _ (by simp)).trans t2)
                      have i1b := (hbe.cell (p := ⟨Wc.heap.size, p, none⟩) (by show Wc.heap.size < wr.heap.size; omega)).trans i1
                      have i2b := (hbe.cell (p := ⟨Wc.heap.size, j, none⟩) (by show Wc.heap.size < wr.heap.size; omega)).trans i2
                      have HS : Hid (w1.drew.cell? ⟨wr.heap.size, 0, none⟩ = some (.int .i64 (L (fw L C n p))) ∧ w1.drew.cell? ⟨wr.heap.size, 1, none⟩ = some (.int .i64 (C (fw L C n p))) ∧ w1.drew.cell? ⟨wr.heap.size, 2, none⟩ = some (.string (M (fw L C n p))) ∧ w1.drew.cell? ⟨wr.heap.size + 1, 0, none⟩ = some (.int .i64 (L (fw L C n j))) ∧ w1.drew.cell? ⟨wr.heap.size + 1, 1, none⟩ = some (.int .i64 (C (fw L C n j))) ∧ w1.drew.cell? ⟨wr.heap.size + 1, 2, none⟩ = some (.string (M (fw L C n j))) ∧ w1.drew.cell? ⟨Wc.heap.size, p, none⟩ = some (.int .i64 (fw L C n p)) ∧ w1.drew.cell? ⟨Wc.heap.size, j, none⟩ = some (.int .i64 (fw L C n j))) := ⟨d1.1, d1.2.1, d1.2.2, d2.1, d2.2.1, d2.2.2, i1b, i2b⟩
                      have eight_on : ∀ W W' : World, (W.cell? ⟨wr.heap.size, 0, none⟩ = some (.int .i64 (L (fw L C n p))) ∧ W.cell? ⟨wr.heap.size, 1, none⟩ = some (.int .i64 (C (fw L C n p))) ∧ W.cell? ⟨wr.heap.size, 2, none⟩ = some (.string (M (fw L C n p))) ∧ W.cell? ⟨wr.heap.size + 1, 0, none⟩ = some (.int .i64 (L (fw L C n j))) ∧ W.cell? ⟨wr.heap.size + 1, 1, none⟩ = some (.int .i64 (C (fw L C n j))) ∧ W.cell? ⟨wr.heap.size + 1, 2, none⟩ = some (.string (M (fw L C n j))) ∧ W.cell? ⟨Wc.heap.size, p, none⟩ = some (.int .i64 (fw L C n p)) ∧ W.cell? ⟨Wc.heap.size, j, none⟩ = some (.int .i64 (fw L C n j))) → Below W.heap.size W W' → (W'.cell? ⟨wr.heap.size, 0, none⟩ = some (.int .i64 (L (fw L C n p))) ∧ W'.cell? ⟨wr.heap.size, 1, none⟩ = some (.int .i64 (C (fw L C n p))) ∧ W'.cell? ⟨wr.heap.size, 2, none⟩ = some (.string (M (fw L C n p))) ∧ W'.cell? ⟨wr.heap.size + 1, 0, none⟩ = some (.int .i64 (L (fw L C n j))) ∧ W'.cell? ⟨wr.heap.size + 1, 1, none⟩ = some (.int .i64 (C (fw L C n j))) ∧ W'.cell? ⟨wr.heap.size + 1, 2, none⟩ = some (.string (M (fw L C n j))) ∧ W'.cell? ⟨Wc.heap.size, p, none⟩ = some (.int .i64 (fw L C n p)) ∧ W'.cell? ⟨Wc.heap.size, j, none⟩ = some (.int .i64 (fw L C n j))) := fun W W' h hb =>
                        ⟨(hb.cell (World.block_lt_of_cell? W _ h.1)).trans h.1, (hb.cell (World.block_lt_of_cell? W _ h.2.1)).trans h.2.1, (hb.cell (World.block_lt_of_cell? W _ h.2.2.1)).trans h.2.2.1, (hb.cell (World.block_lt_of_cell? W _ h.2.2.2.1)).trans h.2.2.2.1, (hb.cell (World.block_lt_of_cell? W _ h.2.2.2.2.1)).trans h.2.2.2.2.1, (hb.cell (World.block_lt_of_cell? W _ h.2.2.2.2.2.1)).trans h.2.2.2.2.2.1, (hb.cell (World.block_lt_of_cell? W _ h.2.2.2.2.2.2.1)).trans h.2.2.2.2.2.2.1, (hb.cell (World.block_lt_of_cell? W _ h.2.2.2.2.2.2.2)).trans h.2.2.2.2.2.2.2⟩
                      have hsz2 := hbe.size
                      have hbf : Below Wf.heap.size Wf w1 := hbj2.trans (hbe.mono hsz1)
                      clear x1 x2 x3 y1 y2 y3 i1 i2 i2a y1a y2a y3a p1 hb1 t1 t2 d1 d2 i1b i2b hr1
                      cases q2 : bf L C (fw L C n p) (fw L C n j)
                      case true =>
                        rw [q2] at p2
                        refine wp_region_noPanic ?_
                        refine wp_region_held_drew (S := fun W => W.cell? ⟨wr.heap.size, 0, none⟩ = some (.int .i64 (L (fw L C n p))) ∧ W.cell? ⟨wr.heap.size, 1, none⟩ = some (.int .i64 (C (fw L C n p))) ∧ W.cell? ⟨wr.heap.size, 2, none⟩ = some (.string (M (fw L C n p))) ∧ W.cell? ⟨wr.heap.size + 1, 0, none⟩ = some (.int .i64 (L (fw L C n j))) ∧ W.cell? ⟨wr.heap.size + 1, 1, none⟩ = some (.int .i64 (C (fw L C n j))) ∧ W.cell? ⟨wr.heap.size + 1, 2, none⟩ = some (.string (M (fw L C n j))) ∧ W.cell? ⟨Wc.heap.size, p, none⟩ = some (.int .i64 (fw L C n p)) ∧ W.cell? ⟨Wc.heap.size, j, none⟩ = some (.int .i64 (fw L C n j))) (by kernel_rfl) HS.out (fun hHeld => ?_)
                        refine take_op 0 155 (v := ?ve0) rfl rfl (by kernel_rfl) (by kernel_rfl) (by kernel_rfl) (fun _ _ _ h => h) (Or.inl ⟨by rfl, ?hye0⟩) (by assumption) ?reste0
                        case hye0 => (intro w hSw; (try dsimp only at hSw); go_simp; try (with_reducible rfl))
                        try simp only [Act.put, List.setIfInBounds_toArray, List.set_cons_zero, List.set_cons_succ]
                        refine take_op 1 156 (v := ?ve1) rfl rfl (by kernel_rfl) (by kernel_rfl) (by kernel_rfl) (fun _ _ _ h => h) (Or.inl ⟨by rfl, ?hye1⟩) (by assumption) ?reste1
                        case hye1 => (intro w hSw; (try dsimp only at hSw); go_simp; try (with_reducible rfl))
                        try simp only [Act.put, List.setIfInBounds_toArray, List.set_cons_zero, List.set_cons_succ]
                        refine wpAnyH_ready (rs := [2]) (by kernel_rfl) (by simp) ?_
                        refine AllReadyH.cons rfl (fun K hK => ?_) AllReadyH.nil
                        go_simp
                        refine (p2 _).mono ?_
                        rintro e w2 ⟨rfl, hb2⟩
                        refine hK.out _ _ (eight_on _ _ (by assumption) hb2) (fun hHeld => ?_)
                        clear hK K
                        try simp only [Act.put, List.setIfInBounds_toArray, List.set_cons_zero, List.set_cons_succ]
                        refine take_op 3 158 (v := ?ve3) rfl rfl (by kernel_rfl) (by kernel_rfl) (by kernel_rfl) (fun _ _ _ h => h) (Or.inl ⟨by rfl, ?hye3⟩) (by assumption) ?reste3
                        case hye3 => (intro w hSw; (try dsimp only at hSw); go_simp; try (with_reducible rfl))
                        try simp only [Act.put, List.setIfInBounds_toArray, List.set_cons_zero, List.set_cons_succ]
                        refine take_op 4 159 (v := ?ve4) rfl rfl (by kernel_rfl) (by kernel_rfl) (by kernel_rfl) (fun _ _ _ h => h) (Or.inl ⟨by rfl, ?hye4⟩) (by assumption) ?reste4
                        case hye4 => (intro w hSw; (try dsimp only at hSw); go_simp; try (with_reducible rfl))
                        try simp only [Act.put, List.setIfInBounds_toArray, List.set_cons_zero, List.set_cons_succ]
                        refine take_op 5 160 (v := undef) rfl rfl (by kernel_rfl) (by kernel_rfl) (by kernel_rfl) (fun _ _ _ h => h) (Or.inr ⟨by kernel_rfl, rfl⟩) (by assumption) ?_
                        try simp only [Act.put, List.setIfInBounds_toArray, List.set_cons_zero, List.set_cons_succ]
                        refine take_op 6 161 (v := undef) rfl rfl (by kernel_rfl) (by kernel_rfl) (by kernel_rfl) (fun _ _ _ h => h) (Or.inr ⟨by kernel_rfl, rfl⟩) (by assumption) ?_
                        try simp only [Act.put, List.setIfInBounds_toArray, List.set_cons_zero, List.set_cons_succ]
                        refine take_op 7 162 (v := undef) rfl rfl (by kernel_rfl) (by kernel_rfl) (by kernel_rfl) (fun _ _ _ h => h) (Or.inr ⟨by kernel_rfl, rfl⟩) (by assumption) ?_
                        try simp only [Act.put, List.setIfInBounds_toArray, List.set_cons_zero, List.set_cons_succ]
                        refine take_op 8 163 (v := undef) rfl rfl (by kernel_rfl) (by kernel_rfl) (by kernel_rfl) (fun _ _ _ h => h) (Or.inr ⟨by kernel_rfl, rfl⟩) (by assumption) ?_
                        try simp only [Act.put, List.setIfInBounds_toArray, List.set_cons_zero, List.set_cons_succ]
                        refine take_op 9 164 (v := undef) rfl rfl (by kernel_rfl) (by kernel_rfl) (by kernel_rfl) (fun _ _ _ h => h) (Or.inr ⟨by kernel_rfl, rfl⟩) (by assumption) ?_
                        try simp only [Act.put, List.setIfInBounds_toArray, List.set_cons_zero, List.set_cons_succ]
                        refine take_op 10 165 (v := undef) rfl rfl (by kernel_rfl) (by kernel_rfl) (by kernel_rfl) (fun _ _ _ h => h) (Or.inr ⟨by kernel_rfl, rfl⟩) (by assumption) ?_
                        try simp only [Act.put, List.setIfInBounds_toArray, List.set_cons_zero, List.set_cons_succ]
                        refine take_op 11 166 (v := undef) rfl rfl (by kernel_rfl) (by kernel_rfl) (by kernel_rfl) (fun _ _ _ h => h) (Or.inr ⟨by kernel_rfl, rfl⟩) (by assumption) ?_
                        try simp only [Act.put, List.setIfInBounds_toArray, List.set_cons_zero, List.set_cons_succ]
                        refine take_op 12 167 (v := undef) rfl rfl (by kernel_rfl) (by kernel_rfl) (by kernel_rfl) (fun _ _ _ h => h) (Or.inr ⟨by kernel_rfl, rfl⟩) (by assumption) ?_
                        try simp only [Act.put, List.setIfInBounds_toArray, List.set_cons_zero, List.set_cons_succ]
                        refine take_op 13 168 (v := undef) rfl rfl (by kernel_rfl) (by kernel_rfl) (by kernel_rfl) (fun _ _ _ h => h) (Or.inr ⟨by kernel_rfl, rfl⟩) (by assumption) ?_
                        try simp only [Act.put, List.setIfInBounds_toArray, List.set_cons_zero, List.set_cons_succ]
                        refine take_op 14 169 (v := undef) rfl rfl (by kernel_rfl) (by kernel_rfl) (by kernel_rfl) (fun _ _ _ h => h) (Or.inr ⟨by kernel_rfl, rfl⟩) (by assumption) ?_
                        try simp only [Act.put, List.setIfInBounds_toArray, List.set_cons_zero, List.set_cons_succ]
                        refine take_op 15 170 (v := ?ve15) rfl rfl (by kernel_rfl) (by kernel_rfl) (by kernel_rfl) (fun _ _ _ h => h) (Or.inl ⟨by rfl, ?hye15⟩) (by assumption) ?reste15
                        case hye15 => (intro w hSw; (try dsimp only at hSw); go_simp; try (with_reducible rfl))
                        try simp only [Act.put, List.setIfInBounds_toArray, List.set_cons_zero, List.set_cons_succ]
                        refine wpAnyH_done (by kernel_rfl) ?_ _
                        refine NoPanic.normal ?_
                        go_wp2
                        go_roundw
                        case rel => exact ⟨j + 1, by omega, by omega, by go_num, hbf.drew.trans (hb2.mono (Nat.le_trans hsz1 hsz2))⟩
                        case measure => simp [intOf]; omega
                      case false =>
                        rw [q2] at p2
                        have hlt2 : fw L C n p < fw L C n j := by
                          have h : ¬ (bf L C (fw L C n p) (fw L C n j) = true) := by rw [q2]; simp
                          rw [bf_iff] at h; omega
                        have hlt2' : (fw L C n p : Int) ≤ (fw L C n j : Int) := by omega
                        go_region_held3 (fun W => W.cell? ⟨wr.heap.size, 0, none⟩ = some (.int .i64 (L (fw L C n p))) ∧ W.cell? ⟨wr.heap.size, 1, none⟩ = some (.int .i64 (C (fw L C n p))) ∧ W.cell? ⟨wr.heap.size, 2, none⟩ = some (.string (M (fw L C n p))) ∧ W.cell? ⟨wr.heap.size + 1, 0, none⟩ = some (.int .i64 (L (fw L C n j))) ∧ W.cell? ⟨wr.heap.size + 1, 1, none⟩ = some (.int .i64 (C (fw L C n j))) ∧ W.cell? ⟨wr.heap.size + 1, 2, none⟩ = some (.string (M (fw L C n j))) ∧ W.cell? ⟨Wc.heap.size, p, none⟩ = some (.int .i64 (fw L C n p)) ∧ W.cell? ⟨Wc.heap.size, j, none⟩ = some (.int .i64 (fw L C n j)))
                          (first | exact HS.out | exact eight_on _ _ (by assumption) hb2)
                          ((go_at_call 25; refine (p2 _).mono ?_; rintro e w2 ⟨rfl, hb2⟩))
                        go_wp2
                        go_roundw
                        case rel => exact ⟨j + 1, by omega, by omega, by go_num, hbf.drew.trans (hb2.mono (Nat.le_trans hsz1 hsz2))⟩
                        case measure => simp [intOf]; omega
                    · obtain ⟨Wg, hWg⟩ : ∃ Wg, Wg = wr := ⟨_, rfl⟩
                      subst hWg
                      go_wp2
                      go_loopw [18] (fun s wr => ∃ s' : Nat, s' ≤ n ∧ s = .int .i64 s' ∧ (s' = 0 ∨ s' = n ∨ bf L C (fw L C n (s' - 1)) (fw L C n s') = true) ∧ Below Wf.heap.size Wf wr) (fun s _ => n - (intOf s).toNat)
                      case atStart => exact ⟨0, by omega, rfl, .inl rfl, hbj2⟩
                      case round =>
                        obtain ⟨s, hs, rfl, hst, hbs⟩ := hrel
                        by_cases hsn : s < n
                        · have hsn' : (s : Int) < (n : Int) := by omega
                          have hst2 : s = 0 ∨ bf L C (fw L C n (s - 1)) (fw L C n s) = true := by
                            rcases hst with h | h | h
                            · exact .inl h
                            · omega
                            · exact .inr h
                          obtain ⟨g, rfl⟩ := hsg (by omega)
                          obtain ⟨g8, rfl⟩ := hrg (by omega)
                          obtain ⟨b, o, rfl, hc⟩ := hFw (by omega)
                          have hbw : b < Wf.heap.size := World.block_lt_of_cell? Wf _ (hc s hsn).1
                          have hXw : Wc.heap.size < Wf.heap.size := World.block_lt_of_cell? Wf _ (hidx s hsn)
                          have f1 := fw_lt (L := L) (C := C) hsn
                          have f1' : (fw L C n s : Int) < (n : Int) := by omega
                          go_wp2
                          go_loopw [19] (fun e wr => ∃ e' : Nat, s < e' ∧ e' ≤ n ∧ e = .int .i64 e' ∧ (∀ q, s < q → q < e' → bf L C (fw L C n s) (fw L C n q) = false) ∧ Below Wf.heap.size Wf wr) (fun e _ => n - (intOf e).toNat)
                          case atStart => exact ⟨s + 1, by omega, by omega, by go_num, fun q h1 h2 => by omega, hbs⟩
                          case round =>
                            obtain ⟨e, hse, hen, rfl, hrun, hbe⟩ := hrel
                            obtain ⟨d, hd⟩ : ∃ d, d = e - s := ⟨_, rfl⟩
                            have hwd : IntKind.i64.wrap ((e : Int) - (s : Int)) = (d : Int) := by rw [IntKind.wrap_i64]; omega
                            by_cases hel : e < n
                            · have hel' : (e : Int) < (n : Int) := by omega
                              have f2 := fw_lt (L := L) (C := C) hel
                              have f2' : (fw L C n e : Int) < (n : Int) := by omega
                              obtain ⟨x1, x2, x3⟩ : G3 L C M b o (fw L C n s) wr := (show G3 L C M b o (fw L C n s) Wf from ⟨(hc _ f1).1, (hc _ f1).2.1, (hc _ f1).2.2.1⟩).on hbe hbw
                              obtain ⟨y1, y2, y3⟩ : G3 L C M b o (fw L C n e) wr := (show G3 L C M b o (fw L C n e) Wf from ⟨(hc _ f2).1, (hc _ f2).2.1, (hc _ f2).2.2.1⟩).on hbe hbw
                              have i1 := (hbe.cell (p := ⟨Wc.heap.size, s, none⟩) hXw).trans (hidx s hsn)
                              have i2 := (hbe.cell (p := ⟨Wc.heap.size, e, none⟩) hXw).trans (hidx e hel)
                              have p2 := less_25 (L (fw L C n s)) (C (fw L C n s)) (L (fw L C n e)) (C (fw L C n e)) (M (fw L C n s)) (M (fw L C n e))
                              rw [show lt (L (fw L C n s)) (C (fw L C n s)) (L (fw L C n e)) (C (fw L C n e)) = bf L C (fw L C n s) (fw L C n e) from rfl] at p2
                              have HS : Hid (wr.drew.cell? ⟨b, o + fw L C n s * 3, none⟩ = some (.int .i64 (L (fw L C n s))) ∧ wr.drew.cell? ⟨b, o + fw L C n s * 3 + 1, none⟩ = some (.int .i64 (C (fw L C n s))) ∧ wr.drew.cell? ⟨b, o + fw L C n s * 3 + 2, none⟩ = some (.string (M (fw L C n s))) ∧ wr.drew.cell? ⟨b, o + fw L C n e * 3, none⟩ = some (.int .i64 (L (fw L C n e))) ∧ wr.drew.cell? ⟨b, o + fw L C n e * 3 + 1, none⟩ = some (.int .i64 (C (fw L C n e))) ∧ wr.drew.cell? ⟨b, o + fw L C n e * 3 + 2, none⟩ = some (.string (M (fw L C n e))) ∧ wr.drew.cell? ⟨Wc.heap.size, s, none⟩ = some (.int .i64 (fw L C n s)) ∧ wr.drew.cell? ⟨Wc.heap.size, e, none⟩ = some (.int .i64 (fw L C n e))) := ⟨x1, x2, x3, y1, y2, y3, i1, i2⟩
                              have eight_on : ∀ W W' : World, (W.cell? ⟨b, o + fw L C n s * 3, none⟩ = some (.int .i64 (L (fw L C n s))) ∧ W.cell? ⟨b, o + fw L C n s * 3 + 1, none⟩ = some (.int .i64 (C (fw L C n s))) ∧ W.cell? ⟨b, o + fw L C n s * 3 + 2, none⟩ = some (.string (M (fw L C n s))) ∧ W.cell? ⟨b, o + fw L C n e * 3, none⟩ = some (.int .i64 (L (fw L C n e))) ∧ W.cell? ⟨b, o + fw L C n e * 3 + 1, none⟩ = some (.int .i64 (C (fw L C n e))) ∧ W.cell? ⟨b, o + fw L C n e * 3 + 2, none⟩ = some (.string (M (fw L C n e))) ∧ W.cell? ⟨Wc.heap.size, s, none⟩ = some (.int .i64 (fw L C n s)) ∧ W.cell? ⟨Wc.heap.size, e, none⟩ = some (.int .i64 (fw L C n e))) → Below W.heap.size W W' → (W'.cell? ⟨b, o + fw L C n s * 3, none⟩ = some (.int .i64 (L (fw L C n s))) ∧ W'.cell? ⟨b, o + fw L C n s * 3 + 1, none⟩ = some (.int .i64 (C (fw L C n s))) ∧ W'.cell? ⟨b, o + fw L C n s * 3 + 2, none⟩ = some (.string (M (fw L C n s))) ∧ W'.cell? ⟨b, o + fw L C n e * 3, none⟩ = some (.int .i64 (L (fw L C n e))) ∧ W'.cell? ⟨b, o + fw L C n e * 3 + 1, none⟩ = some (.int .i64 (C (fw L C n e))) ∧ W'.cell? ⟨b, o + fw L C n e * 3 + 2, none⟩ = some (.string (M (fw L C n e))) ∧ W'.cell? ⟨Wc.heap.size, s, none⟩ = some (.int .i64 (fw L C n s)) ∧ W'.cell? ⟨Wc.heap.size, e, none⟩ = some (.int .i64 (fw L C n e))) := fun W W' h hb =>
                                ⟨(hb.cell (World.block_lt_of_cell? W _ h.1)).trans h.1, (hb.cell (World.block_lt_of_cell? W _ h.2.1)).trans h.2.1, (hb.cell (World.block_lt_of_cell? W _ h.2.2.1)).trans h.2.2.1, (hb.cell (World.block_lt_of_cell? W _ h.2.2.2.1)).trans h.2.2.2.1, (hb.cell (World.block_lt_of_cell? W _ h.2.2.2.2.1)).trans h.2.2.2.2.1, (hb.cell (World.block_lt_of_cell? W _ h.2.2.2.2.2.1)).trans h.2.2.2.2.2.1, (hb.cell (World.block_lt_of_cell? W _ h.2.2.2.2.2.2.1)).trans h.2.2.2.2.2.2.1, (hb.cell (World.block_lt_of_cell? W _ h.2.2.2.2.2.2.2)).trans h.2.2.2.2.2.2.2⟩
                              have hsz1 := hbe.size
                              clear x1 x2 x3 y1 y2 y3 i1 i2
                              cases q2 : bf L C (fw L C n s) (fw L C n e)
                              case true =>
                                go_wp2
                                rw [q2] at p2
                                go_region_held3 (fun W => W.cell? ⟨b, o + fw L C n s * 3, none⟩ = some (.int .i64 (L (fw L C n s))) ∧ W.cell? ⟨b, o + fw L C n s * 3 + 1, none⟩ = some (.int .i64 (C (fw L C n s))) ∧ W.cell? ⟨b, o + fw L C n s * 3 + 2, none⟩ = some (.string (M (fw L C n s))) ∧ W.cell? ⟨b, o + fw L C n e * 3, none⟩ = some (.int .i64 (L (fw L C n e))) ∧ W.cell? ⟨b, o + fw L C n e * 3 + 1, none⟩ = some (.int .i64 (C (fw L C n e))) ∧ W.cell? ⟨b, o + fw L C n e * 3 + 2, none⟩ = some (.string (M (fw L C n e))) ∧ W.cell? ⟨Wc.heap.size, s, none⟩ = some (.int .i64 (fw L C n s)) ∧ W.cell? ⟨Wc.heap.size, e, none⟩ = some (.int .i64 (fw L C n e)))
                                  (first | exact HS.out | exact eight_on _ _ (by assumption) hb2)
                                  ((go_at_call 25; refine (p2 _).mono ?_; rintro e' w2 ⟨rfl, hb2⟩))
                                have hend : e = n ∨ bf L C (fw L C n s) (fw L C n e) = true := .inr q2
                                have hnx : e = 0 ∨ e = n ∨ bf L C (fw L C n (e - 1)) (fw L C n e) = true := .inr (.inr (run_step hel hse hrun q2))
                                have hbx : Below Wf.heap.size Wf w2 := hbe.drew.trans (hb2.mono hsz1)
                                clear HS eight_on p2 hb2
                                go_wp2
                                go_loopw [20] (fun t wr => ∃ t' : Nat, t' ≤ d ∧ t = .int .i64 t' ∧ Below Wf.heap.size Wf wr) (fun t _ => d - (intOf t).toNat)
                                case atStart => exact ⟨0, by omega, rfl, hbx⟩
                                case round =>
                                  obtain ⟨t, ht, rfl, hbt⟩ := hrel
                                  by_cases htd : t < d
                                  · have htd' : (t : Int) < (d : Int) := by omega
                                    obtain ⟨x, hx⟩ : ∃ x, x = s + t := ⟨_, rfl⟩
                                    obtain ⟨y, hy⟩ : ∃ y, y = e - 1 := ⟨_, rfl⟩
                                    obtain ⟨z, hz⟩ : ∃ z, z = e - 1 - t := ⟨_, rfl⟩
                                    have hwx : IntKind.i64.wrap ((s : Int) + (t : Int)) = (x : Int) := by rw [IntKind.wrap_i64]; omega
                                    have hwy : IntKind.i64.wrap ((e : Int) - 1) = (y : Int) := by rw [IntKind.wrap_i64]; omega
                                    have hwz : IntKind.i64.wrap ((y : Int) - (t : Int)) = (z : Int) := by rw [IntKind.wrap_i64]; omega
                                    have hxn' : (x : Int) < (n : Int) := by omega
                                    have hzn' : (z : Int) < (n : Int) := by omega
                                    have hrr := rev_run (L := L) (C := C) (n := n) (s := s) (e := e) (t := t) hen hse (by omega) hst2 hrun hend
                                    rw [← hx, ← hz] at hrr
                                    have c1 := hrvf g8 rfl x (by omega)
                                    have c2 := hfwf g rfl z (by omega)
                                    rw [hrr] at c1
                                    have k1 := (hbt.cell (p := ⟨g8, x, none⟩) (World.block_lt_of_cell? Wf _ c1)).trans c1
                                    have k2 := (hbt.cell (p := ⟨g, z, none⟩) (World.block_lt_of_cell? Wf _ c2)).trans c2
                                    have HT : Hid (wr.drew.cell? ⟨g8, x, none⟩ = some (.pointer (some ⟨A (fw L C n z), 0, none⟩)) ∧ wr.drew.cell? ⟨g, z, none⟩ = some (.pointer (some ⟨A (fw L C n z), 0, none⟩))) := ⟨k1, k2⟩
                                    have hne := neq_eq ⟨A (fw L C n z), 0, none⟩
                                    clear c1 c2 k1 k2 hrr hx hy hz
                                    go_wp2
                                    go_region_held3 (fun W => W.cell? ⟨g8, x, none⟩ = some (.pointer (some ⟨A (fw L C n z), 0, none⟩)) ∧ W.cell? ⟨g, z, none⟩ = some (.pointer (some ⟨A (fw L C n z), 0, none⟩)))
                                      (exact HT.out)
                                      ((fail))
                                    go_wp2
                                    go_roundw
                                    case rel => exact ⟨t + 1, by omega, by go_num, by first | exact hbt | exact hbt.drew⟩
                                    case measure => simp [intOf]; omega
                                  · obtain rfl : d = t := by omega
                                    go_wp2
                                    go_roundw
                                    case rel => exact ⟨e, hen, rfl, hnx, hbt⟩
                                    case measure => simp [intOf]; omega
                              case false =>
                                go_wp2
                                rw [q2] at p2
                                go_region_held3 (fun W => W.cell? ⟨b, o + fw L C n s * 3, none⟩ = some (.int .i64 (L (fw L C n s))) ∧ W.cell? ⟨b, o + fw L C n s * 3 + 1, none⟩ = some (.int .i64 (C (fw L C n s))) ∧ W.cell? ⟨b, o + fw L C n s * 3 + 2, none⟩ = some (.string (M (fw L C n s))) ∧ W.cell? ⟨b, o + fw L C n e * 3, none⟩ = some (.int .i64 (L (fw L C n e))) ∧ W.cell? ⟨b, o + fw L C n e * 3 + 1, none⟩ = some (.int .i64 (C (fw L C n e))) ∧ W.cell? ⟨b, o + fw L C n e * 3 + 2, none⟩ = some (.string (M (fw L C n e))) ∧ W.cell? ⟨Wc.heap.size, s, none⟩ = some (.int .i64 (fw L C n s)) ∧ W.cell? ⟨Wc.heap.size, e, none⟩ = some (.int .i64 (fw L C n e)))
                                  (first | exact HS.out | exact eight_on _ _ (by assumption) hb2)
                                  ((go_at_call 25; refine (p2 _).mono ?_; rintro e' w2 ⟨rfl, hb2⟩))
                                go_wp2
                                go_roundw
                                case rel =>
                                  refine ⟨e + 1, by omega, by omega, by go_num, fun q h1 h2 => ?_, hbe.drew.trans (hb2.mono hsz1)⟩
                                  by_cases hq : q = e
                                  · rw [hq]; exact q2
                                  · exact hrun q h1 (by omega)
                                case measure => simp [intOf]; omega
                            · obtain rfl : n = e := by omega
                              go_wp2
                              refine wp_region_noPanic ?_
                              refine wp_region_held_drew (S := fun W => True) (by kernel_rfl) trivial (fun hHeld => ?_)
                              refine take_op 0 176 (v := ?vf0) rfl rfl (by kernel_rfl) (by kernel_rfl) (by kernel_rfl) (fun _ _ _ h => h) (Or.inl ⟨by rfl, ?hyf0⟩) (by assumption) ?restf0
                              case hyf0 => (intro w hSw; (try dsimp only at hSw); go_simp; try (with_reducible rfl))
                              try simp only [Act.put, List.setIfInBounds_toArray, List.set_cons_zero, List.set_cons_succ]
                              refine take_op 1 177 (v := ?vf1) rfl rfl (by kernel_rfl) (by kernel_rfl) (by kernel_rfl) (fun _ _ _ h => h) (Or.inl ⟨by rfl, ?hyf1⟩) (by assumption) ?restf1
                              case hyf1 => (intro w hSw; (try dsimp only at hSw); go_simp; try (with_reducible rfl))
                              try simp only [Act.put, List.setIfInBounds_toArray, List.set_cons_zero, List.set_cons_succ]
                              refine take_op 2 178 (v := ?vf2) rfl rfl (by kernel_rfl) (by kernel_rfl) (by kernel_rfl) (fun _ _ _ h => h) (Or.inl ⟨by rfl, ?hyf2⟩) (by assumption) ?restf2
                              case hyf2 => (intro w hSw; (try dsimp only at hSw); go_simp; try (with_reducible rfl))
                              try simp only [Act.put, List.setIfInBounds_toArray, List.set_cons_zero, List.set_cons_succ]
                              refine take_op 3 179 (v := ?vf3) rfl rfl (by kernel_rfl) (by kernel_rfl) (by kernel_rfl) (fun _ _ _ h => h) (Or.inl ⟨by rfl, ?hyf3⟩) (by assumption) ?restf3
                              case hyf3 => (intro w hSw; (try dsimp only at hSw); go_simp; try (with_reducible rfl))
                              try simp only [Act.put, List.setIfInBounds_toArray, List.set_cons_zero, List.set_cons_succ]
                              refine take_op 4 180 (v := undef) rfl rfl (by kernel_rfl) (by kernel_rfl) (by kernel_rfl) (fun _ _ _ h => h) (Or.inr ⟨by kernel_rfl, rfl⟩) (by assumption) ?_
                              try simp only [Act.put, List.setIfInBounds_toArray, List.set_cons_zero, List.set_cons_succ]
                              refine take_op 5 181 (v := undef) rfl rfl (by kernel_rfl) (by kernel_rfl) (by kernel_rfl) (fun _ _ _ h => h) (Or.inr ⟨by kernel_rfl, rfl⟩) (by assumption) ?_
                              try simp only [Act.put, List.setIfInBounds_toArray, List.set_cons_zero, List.set_cons_succ]
                              refine take_op 6 182 (v := undef) rfl rfl (by kernel_rfl) (by kernel_rfl) (by kernel_rfl) (fun _ _ _ h => h) (Or.inr ⟨by kernel_rfl, rfl⟩) (by assumption) ?_
                              try simp only [Act.put, List.setIfInBounds_toArray, List.set_cons_zero, List.set_cons_succ]
                              refine take_op 7 183 (v := undef) rfl rfl (by kernel_rfl) (by kernel_rfl) (by kernel_rfl) (fun _ _ _ h => h) (Or.inr ⟨by kernel_rfl, rfl⟩) (by assumption) ?_
                              try simp only [Act.put, List.setIfInBounds_toArray, List.set_cons_zero, List.set_cons_succ]
                              refine take_op 8 184 (v := undef) rfl rfl (by kernel_rfl) (by kernel_rfl) (by kernel_rfl) (fun _ _ _ h => h) (Or.inr ⟨by kernel_rfl, rfl⟩) (by assumption) ?_
                              try simp only [Act.put, List.setIfInBounds_toArray, List.set_cons_zero, List.set_cons_succ]
                              refine take_op 9 185 (v := undef) rfl rfl (by kernel_rfl) (by kernel_rfl) (by kernel_rfl) (fun _ _ _ h => h) (Or.inr ⟨by kernel_rfl, rfl⟩) (by assumption) ?_
                              try simp only [Act.put, List.setIfInBounds_toArray, List.set_cons_zero, List.set_cons_succ]
                              refine take_op 10 186 (v := undef) rfl rfl (by kernel_rfl) (by kernel_rfl) (by kernel_rfl) (fun _ _ _ h => h) (Or.inr ⟨by kernel_rfl, rfl⟩) (by assumption) ?_
                              try simp only [Act.put, List.setIfInBounds_toArray, List.set_cons_zero, List.set_cons_succ]
                              refine take_op 11 187 (v := undef) rfl rfl (by kernel_rfl) (by kernel_rfl) (by kernel_rfl) (fun _ _ _ h => h) (Or.inr ⟨by kernel_rfl, rfl⟩) (by assumption) ?_
                              try simp only [Act.put, List.setIfInBounds_toArray, List.set_cons_zero, List.set_cons_succ]
                              refine take_op 12 188 (v := undef) rfl rfl (by kernel_rfl) (by kernel_rfl) (by kernel_rfl) (fun _ _ _ h => h) (Or.inr ⟨by kernel_rfl, rfl⟩) (by assumption) ?_
                              try simp only [Act.put, List.setIfInBounds_toArray, List.set_cons_zero, List.set_cons_succ]
                              refine take_op 13 189 (v := undef) rfl rfl (by kernel_rfl) (by kernel_rfl) (by kernel_rfl) (fun _ _ _ h => h) (Or.inr ⟨by kernel_rfl, rfl⟩) (by assumption) ?_
                              try simp only [Act.put, List.setIfInBounds_toArray, List.set_cons_zero, List.set_cons_succ]
                              refine take_op 14 190 (v := undef) rfl rfl (by kernel_rfl) (by kernel_rfl) (by kernel_rfl) (fun _ _ _ h => h) (Or.inr ⟨by kernel_rfl, rfl⟩) (by assumption) ?_
                              try simp only [Act.put, List.setIfInBounds_toArray, List.set_cons_zero, List.set_cons_succ]
                              refine take_op 15 191 (v := undef) rfl rfl (by kernel_rfl) (by kernel_rfl) (by kernel_rfl) (fun _ _ _ h => h) (Or.inr ⟨by kernel_rfl, rfl⟩) (by assumption) ?_
                              try simp only [Act.put, List.setIfInBounds_toArray, List.set_cons_zero, List.set_cons_succ]
                              refine take_op 16 192 (v := undef) rfl rfl (by kernel_rfl) (by kernel_rfl) (by kernel_rfl) (fun _ _ _ h => h) (Or.inr ⟨by kernel_rfl, rfl⟩) (by assumption) ?_
                              try simp only [Act.put, List.setIfInBounds_toArray, List.set_cons_zero, List.set_cons_succ]
                              refine take_op 17 193 (v := undef) rfl rfl (by kernel_rfl) (by kernel_rfl) (by kernel_rfl) (fun _ _ _ h => h) (Or.inr ⟨by kernel_rfl, rfl⟩) (by assumption) ?_
                              try simp only [Act.put, List.setIfInBounds_toArray, List.set_cons_zero, List.set_cons_succ]
                              refine take_op 18 194 (v := undef) rfl rfl (by kernel_rfl) (by kernel_rfl) (by kernel_rfl) (fun _ _ _ h => h) (Or.inr ⟨by kernel_rfl, rfl⟩) (by assumption) ?_
                              try simp only [Act.put, List.setIfInBounds_toArray, List.set_cons_zero, List.set_cons_succ]
                              refine take_op 19 195 (v := undef) rfl rfl (by kernel_rfl) (by kernel_rfl) (by kernel_rfl) (fun _ _ _ h => h) (Or.inr ⟨by kernel_rfl, rfl⟩) (by assumption) ?_
                              try simp only [Act.put, List.setIfInBounds_toArray, List.set_cons_zero, List.set_cons_succ]
                              refine take_op 20 196 (v := ?vf20) rfl rfl (by kernel_rfl) (by kernel_rfl) (by kernel_rfl) (fun _ _ _ h => h) (Or.inl ⟨by rfl, ?hyf20⟩) (by assumption) ?restf20
                              case hyf20 => (intro w hSw; (try dsimp only at hSw); go_simp; try (with_reducible rfl))
                              try simp only [Act.put, List.setIfInBounds_toArray, List.set_cons_zero, List.set_cons_succ]
                              refine wpAnyH_done (by kernel_rfl) ?_ _
                              refine NoPanic.normal ?_
                              have hbx : Below Wf.heap.size Wf wr.drew := hbe.drew
                              go_wp2
                              go_loopw [20] (fun t wr => ∃ t' : Nat, t' ≤ d ∧ t = .int .i64 t' ∧ Below Wf.heap.size Wf wr) (fun t _ => d - (intOf t).toNat)
                              case atStart => exact ⟨0, by omega, rfl, hbx⟩
                              case round =>
                                obtain ⟨t, ht, rfl, hbt⟩ := hrel
                                by_cases htd : t < d
                                · have htd' : (t : Int) < (d : Int) := by omega
                                  obtain ⟨x, hx⟩ : ∃ x, x = s + t := ⟨_, rfl⟩
                                  obtain ⟨y, hy⟩ : ∃ y, y = n - 1 := ⟨_, rfl⟩
                                  obtain ⟨z, hz⟩ : ∃ z, z = n - 1 - t := ⟨_, rfl⟩
                                  have hwx : IntKind.i64.wrap ((s : Int) + (t : Int)) = (x : Int) := by rw [IntKind.wrap_i64]; omega
                                  have hwy : IntKind.i64.wrap ((n : Int) - 1) = (y : Int) := by rw [IntKind.wrap_i64]; omega
                                  have hwz : IntKind.i64.wrap ((y : Int) - (t : Int)) = (z : Int) := by rw [IntKind.wrap_i64]; omega
                                  have hxn' : (x : Int) < (n : Int) := by omega
                                  have hzn' : (z : Int) < (n : Int) := by omega
                                  have hrr := rev_run (L := L) (C := C) (n := n) (s := s) (e := n) (t := t) hen hse (by omega) hst2 hrun (.inl rfl)
                                  rw [← hx, ← hz] at hrr
                                  have c1 := hrvf g8 rfl x (by omega)
                                  have c2 := hfwf g rfl z (by omega)
                                  rw [hrr] at c1
                                  have k1 := (hbt.cell (p := ⟨g8, x, none⟩) (World.block_lt_of_cell? Wf _ c1)).trans c1
                                  have k2 := (hbt.cell (p := ⟨g, z, none⟩) (World.block_lt_of_cell? Wf _ c2)).trans c2
                                  have HT : Hid (wr.drew.cell? ⟨g8, x, none⟩ = some (.pointer (some ⟨A (fw L C n z), 0, none⟩)) ∧ wr.drew.cell? ⟨g, z, none⟩ = some (.pointer (some ⟨A (fw L C n z), 0, none⟩))) := ⟨k1, k2⟩
                                  have hne := neq_eq ⟨A (fw L C n z), 0, none⟩
                                  clear c1 c2 k1 k2 hrr hx hy hz
                                  go_wp2
                                  go_region_held3 (fun W => W.cell? ⟨g8, x, none⟩ = some (.pointer (some ⟨A (fw L C n z), 0, none⟩)) ∧ W.cell? ⟨g, z, none⟩ = some (.pointer (some ⟨A (fw L C n z), 0, none⟩)))
                                    (exact HT.out)
                                    ((fail))
                                  go_wp2
                                  go_roundw
                                  case rel => exact ⟨t + 1, by omega, by go_num, by first | exact hbt | exact hbt.drew⟩
                                  case measure => simp [intOf]; omega
                                · obtain rfl : d = t := by omega
                                  go_wp2
                                  go_roundw
                                  case rel => exact ⟨n, hen, rfl, .inr (.inl rfl), hbt⟩
                                  case measure => simp [intOf]; omega
                        · obtain rfl : n = s := by omega
                          go_wp2
                          go_ret
                          exact ⟨rfl, hbwf.trans (hbs.mono hbwf.size)⟩
end Go.Proofs.Qxb6608988a
