/-
  FnErrorsAddScriptIsStableSortByPlace: the walk.
-/
import Derived.Test.Qxb6608988aStep
import Derived.Lib.Builder
namespace Go.Proofs.Qxb6608988a
set_option linter.unusedSimpArgs false
set_option linter.unusedVariables false
open Go.RowKit
variable {L C : Nat → Int} {M : Nat → ByteArray}

/-- Fault k's cells. -/
def F3 (L C : Nat → Int) (M : Nat → ByteArray) (b o k : Nat) (W : World) : Prop :=
  W.cell? ⟨b, o + k * 3, none⟩ = some (.int .i64 (L k)) ∧ W.cell? ⟨b, o + k * 3 + 1, none⟩ = some (.int .i64 (C k)) ∧ W.cell? ⟨b, o + k * 3 + 2, none⟩ = some (.string (M k))
theorem F3.on {b o k B : Nat} {W W' : World} (h : F3 L C M b o k W) (hb : Below B W W') (hB : b < B) : F3 L C M b o k W' :=
  ⟨(hb.cell (p := ⟨b, _, none⟩) hB).trans h.1, (hb.cell (p := ⟨b, _, none⟩) hB).trans h.2.1, (hb.cell (p := ⟨b, _, none⟩) hB).trans h.2.2⟩
theorem F3.alloc {b o k : Nat} {W : World} (h : F3 L C M b o k W) (ob : Obj) : F3 L C M b o k (W.alloc ob) :=
  h.on ((Below.refl W.heap.size W).alloc (Nat.le_refl _) ob) (World.block_lt_of_cell? W _ h.1)
theorem F3.set {b o k P q : Nat} {W : World} (h : F3 L C M b o k W) (hne : b < P) (u : Value) : F3 L C M b o k (W.setCell ⟨P, q, none⟩ u) :=
  h.on ((Below.refl P W).setCell (Nat.le_refl _) u) hne

theorem neq_same (a : Addr) (W : World) : (binOp .neq 51 (.pointer (some a)) (.pointer (some a))).run Try.prog W = .ok (.bool false) W := by
  obtain ⟨i0, hi⟩ : ∃ i0, Try.prog.info? 55 = some i0 := Option.isSome_iff_exists.1 (by kernel_rfl)
  exact Lib.run_neq_ptr_same W a Try.underlying51 hi
theorem take_at {P : Program} {md : Region.Mode} {ops : Array Oper} {Q : Exit → Act → World → Prop} {S : World → Prop} (i d : Nat) {oi : Oper} {v : Value} {fuel : Nat} {listed : Array Bool} {a : Act} {w : World} (hi : ops[i]? = some oi) (hd : oi.dst = some d)
    (hs : Region.noSelect ops = true) (hf : Region.free md ops listed i = true) (hr : (Region.ready md ops listed).contains i = true)
    (hQ : ∀ c a w, Q (.panic c) (a.put (some d) v) w → Q (.panic c) a w) (hy : YieldsIf P ops S oi v a) (hS : S w)
    (h : wpAnyH P md ops Q S fuel (listed.setIfInBounds i true) (a.put (some d) v) w) : wpAnyH P md ops Q S (fuel + 1) listed a w :=
  wpAnyH_take hi hs hf hr (by rw [hd]; exact hQ) hy hS (by rw [hd]; exact h)

set_option maxHeartbeats 8000000 in
theorem law5_some (a : Option Addr) (n c : Nat) (w : World) (hn : n ≤ 4096) (r : Fl a n L C M w) (hnil : a = none → n = 0) :
    Calls Try.prog 5 #[.slice a n c] w fun e w' => e = .returned (.bool true) ∧ Below w.heap.size w w' := by
  have h22 := bytes_22 a n c L C M w r
  have h23 := fault_23 a n c L C M w (by omega) r
  have hn' : (n : Int) ≤ 4096 := by omega
  obtain ⟨MM, hM, hmk⟩ := make_ptrs n hn
  have hB0 : Base L C M w.heap.size n 0 (fun _ => 0) (w.alloc (.cells MM 51)) := by
    refine ⟨fun c hc => ?_, fun m hm => by omega, fun m hm => by omega, fun m hm => by omega, fun m m' _ h => by omega, by simp⟩
    have h := heap_alloc_new w (.cells MM 51)
    refine ⟨?_, frozen_of_row _ _ c _ _ h⟩
    rw [cell_of_row _ _ c _ _ _ h, Array.getElem?_eq_getElem (by omega)]; rfl
  have hb0 : Below w.heap.size w (w.alloc (.cells MM 51)) := (Below.refl _ w).alloc (Nat.le_refl _) _
  go_enter Try.func5, Try.ntmps5
  go_wp2_with (first
    | (go_at_call 22; refine h22.mono ?_; rintro e w' ⟨⟨b, rfl⟩, hw⟩; obtain rfl := hw.symm)
    | (go_at_call 23; refine h23.mono ?_; rintro e w' ⟨⟨s, rfl⟩, hw⟩; obtain rfl := hw.symm))
  all_goals first
    | (go_ret; exact ⟨rfl, Below.refl _ _⟩)
    | skip
  go_loopw [5, 6] (fun v i wr => ∃ (k : Nat) (A : Nat → Nat), k ≤ n ∧ i = .int .i64 k ∧ Base L C M w.heap.size n k A wr ∧ wr.ownsRow (w.heap.size + 1) 51 1 v k ((srt L C k).map (ptr A)) ∧ Below w.heap.size w wr) (fun _ i _ => n - (intOf i).toNat)
  case atStart => exact ⟨0, fun _ => 0, by omega, rfl, hB0, World.ownsRow_nil _ _ _ _, hb0⟩
  case round =>
    obtain ⟨k, A, hk, rfl, hBs, hown, hbl⟩ := hrel
    by_cases hlt : k < n
    · have hlt' : (k : Int) < (n : Int) := by omega
      obtain ⟨b, o, rfl, hc⟩ := r (by omega)
      obtain ⟨h1, h2, h3, h4⟩ := hc k hlt
      have hbw : b < w.heap.size := World.block_lt_of_cell? w _ h1
      have hF : Hid (F3 L C M b o k wr.drew) := (show F3 L C M b o k wr from (show F3 L C M b o k w from ⟨h1, h2, h3⟩).on hbl hbw)
      obtain ⟨u0, k0⟩ := Option.isSome_iff_exists.1 (hBs.own k hlt).1
      have f0 := (hBs.own k hlt).2
      have hbig := hBs.big
      have e2 : ((wr.alloc (.cells #[.int .i64 (L k), .int .i64 (C k)] 30)).alloc (.cells #[.int .i64 (L k), .int .i64 (C k), .string (M k)] 55)).heap[w.heap.size]? = wr.heap[w.heap.size]? := by
        rw [Below.heap_alloc _ _ _ (by simp; omega), Below.heap_alloc _ _ _ (by omega)]
      have k2 : ((wr.alloc (.cells #[.int .i64 (L k), .int .i64 (C k)] 30)).alloc (.cells #[.int .i64 (L k), .int .i64 (C k), .string (M k)] 55)).cell? ⟨w.heap.size, k, none⟩ = some u0 := (World.cell?_of_block (w := wr) (a := ⟨w.heap.size, k, none⟩) e2).trans k0
      have f2 : ((wr.alloc (.cells #[.int .i64 (L k), .int .i64 (C k)] 30)).alloc (.cells #[.int .i64 (L k), .int .i64 (C k), .string (M k)] 55)).frozen? ⟨w.heap.size, k, none⟩ = false := (World.frozen?_of_block (w := wr) (a := ⟨w.heap.size, k, none⟩) e2).trans f0
      have k3 : ((wr.drew.alloc (.cells #[.int .i64 (L k), .int .i64 (C k)] 30)).alloc (.cells #[.int .i64 (L k), .int .i64 (C k), .string (M k)] 55)).cell? ⟨w.heap.size, k, none⟩ = some u0 := k2
      have f3 : ((wr.drew.alloc (.cells #[.int .i64 (L k), .int .i64 (C k)] 30)).alloc (.cells #[.int .i64 (L k), .int .i64 (C k), .string (M k)] 55)).frozen? ⟨w.heap.size, k, none⟩ = false := f2
      clear e2
      clear hc h1 h2 h3 h4
      go_wp2
      go_region_held3 (fun W => W.cell? ⟨b, o + k * 3, none⟩ = some (.int .i64 (L k)) ∧ W.cell? ⟨b, o + k * 3 + 1, none⟩ = some (.int .i64 (C k)) ∧ W.cell? ⟨b, o + k * 3 + 2, none⟩ = some (.string (M k)))
        (first | exact hF.out | exact F3.set (show F3 L C M b o k _ by assumption) hbw _ | exact F3.alloc (show F3 L C M b o k _ by assumption) _)
        ((go_at_call 10; refine (pos_10 (L k) (C k) _).mono ?_; rintro e w1 ⟨rfl, rfl⟩))
      obtain ⟨W2, hW2⟩ : ∃ W2, W2 = (made L C M w.heap.size k wr).drew := ⟨_, rfl⟩
      obtain ⟨A2, hA2⟩ : ∃ A2, A2 = upd A k (wr.heap.size + 1) := ⟨_, rfl⟩
      have hmg := made_grown (L := L) (C := C) (M := M) (P := w.heap.size) (k := k) (w := wr)
      have hg2 : wr.grownBy W2 (some w.heap.size) := by rw [hW2]; exact ⟨hmg.os, hmg.tape, hmg.output, hmg.size, hmg.block⟩
      have hB2 : Base L C M w.heap.size n (k + 1) A2 W2 := by
        rw [hW2, hA2]
        exact (hBs.next hlt).grown (row := none) ⟨rfl, rfl, rfl, Nat.le_refl _, fun _ _ _ => rfl⟩ (by simp) (fun _ _ => by simp)
      have hnp : u5.ownBlock ≠ some w.heap.size := fun e => by have := (hown.lt _ e).1; omega
      have hown2 : W2.ownsRow (w.heap.size + 1) 51 1 u5 (srt L C k).length ((srt L C k).map (ptr A2)) := by
        rw [srt_len, hA2, ptr_upd (fun j hj => srt_mem.1 hj)]
        exact hown.kept hg2 (.inr hnp)
      have hbl2 : Below w.heap.size w W2 := hbl.grown hg2 (by omega) (fun q hq => by injection hq with hq; omega)
      have hadd := add_list L C (w.heap.size + 1) k u5 (srt L C k) A2 W2 (by rw [srt_len]; omega) hB2.big hown2 (hB2.blk k (by omega)).plc (fun j hj => (hB2.blk j (by have := srt_mem.1 hj; omega)).plc)
      have hrw := hB2.row k (by omega)
      have hpk : ptr A2 k = .pointer (some ⟨wr.heap.size + 1, 0, none⟩) := by unfold ptr; rw [hA2, upd_at]
      rw [hpk] at hadd hrw
      have hne2 : ∀ m, m < k + 1 → u5.ownBlock ≠ some (A2 m) := fun m hm => (hB2.blk m hm).ne hown2
      unfold made at hW2
      rw [← hW2]
      clear hW2 k0 f0 k2 f2 k3 f3 hF
      go_wp2_with (go_at_call 24; refine hadd.mono ?_; rintro e w3 ⟨v3, rfl, hown3, hg3⟩)
      go_roundw
      case rel =>
        refine ⟨k + 1, A2, by omega, by go_num, hB2.grown hg3 hnp hne2, ?_, hbl2.grown hg3 (by have := hB2.big; omega) (fun q hq => by have := (hown2.lt _ hq).1; omega)⟩
        rw [srt_len] at hown3
        exact hown3
      case measure => simp [intOf]; omega
    · obtain rfl : k = n := by omega
      have hsl : ∃ sa sc, u5 = .slice sa k sc := by
        rcases hown.2 with ⟨h1, h2⟩ | ⟨g, cap, cur, h1, _⟩
        · exact ⟨none, 0, by rw [h1, h2]⟩
        · exact ⟨_, _, h1⟩
      obtain ⟨sa, sc, rfl⟩ := hsl
      clear hB0 hb0 hmk
      obtain ⟨Wa, hWa⟩ : ∃ Wa, Wa = wr := ⟨_, rfl⟩
      subst hWa
      go_wp2
      go_loopw [7] (fun i wr => ∃ i' : Nat, i' ≤ k ∧ i = .int .i64 i' ∧ Below Wa.heap.size Wa wr) (fun i _ => k - (intOf i).toNat)
      case atStart => exact ⟨0, by omega, rfl, Below.refl _ _⟩
      case round =>
        obtain ⟨i, hi, rfl, hbi⟩ := hrel
        by_cases hik : i < k
        · have hik' : (i : Int) < (k : Int) := by omega
          obtain ⟨Wi, hWi⟩ : ∃ Wi, Wi = wr := ⟨_, rfl⟩
          subst hWi
          go_wp2
          go_loopw [8, 9] (fun rk j wr => ∃ j' : Nat, j' ≤ k ∧ j = .int .i64 j' ∧ rk = .int .i64 (rank L C j' i) ∧ Below Wa.heap.size Wa wr) (fun _ j _ => k - (intOf j).toNat)
          case atStart => exact ⟨0, by omega, rfl, rfl, hbi⟩
          case round =>
            obtain ⟨j, hj, rfl, rfl, hbj⟩ := hrel
            by_cases hjk : j < k
            · have hjk' : (j : Int) < (k : Int) := by omega
              obtain ⟨b, o, rfl, hc⟩ := r (by omega)
              have hbw : b < w.heap.size := World.block_lt_of_cell? w _ (hc i hik).1
              have hbelow : Below w.heap.size w wr := hbl.trans (hbj.mono hbl.size)
              obtain ⟨x1, x2, x3⟩ : F3 L C M b o j wr := (show F3 L C M b o j w from ⟨(hc j hjk).1, (hc j hjk).2.1, (hc j hjk).2.2.1⟩).on hbelow hbw
              obtain ⟨y1, y2, y3⟩ : F3 L C M b o i wr := (show F3 L C M b o i w from ⟨(hc i hik).1, (hc i hik).2.1, (hc i hik).2.2.1⟩).on hbelow hbw
              have hrs := rank_succ (L := L) (C := C) j i
              have hrl := rank_le (L := L) (C := C) j i
              have hsz := hbj.size
              have p1 := less_25 (L j) (C j) (L i) (C i) (M j) (M i)
              have p2 := less_25 (L i) (C i) (L j) (C j) (M i) (M j)
              rw [show lt (L j) (C j) (L i) (C i) = bf L C j i from rfl] at p1
              rw [show lt (L i) (C i) (L j) (C j) = bf L C i j from rfl] at p2
              have HS : Hid (wr.drew.cell? ⟨b, o + j * 3, none⟩ = some (.int .i64 (L j)) ∧ wr.drew.cell? ⟨b, o + j * 3 + 1, none⟩ = some (.int .i64 (C j)) ∧ wr.drew.cell? ⟨b, o + j * 3 + 2, none⟩ = some (.string (M j)) ∧ wr.drew.cell? ⟨b, o + i * 3, none⟩ = some (.int .i64 (L i)) ∧ wr.drew.cell? ⟨b, o + i * 3 + 1, none⟩ = some (.int .i64 (C i)) ∧ wr.drew.cell? ⟨b, o + i * 3 + 2, none⟩ = some (.string (M i))) := ⟨x1, x2, x3, y1, y2, y3⟩
              have six_on : ∀ W W' : World, (W.cell? ⟨b, o + j * 3, none⟩ = some (.int .i64 (L j)) ∧ W.cell? ⟨b, o + j * 3 + 1, none⟩ = some (.int .i64 (C j)) ∧ W.cell? ⟨b, o + j * 3 + 2, none⟩ = some (.string (M j)) ∧ W.cell? ⟨b, o + i * 3, none⟩ = some (.int .i64 (L i)) ∧ W.cell? ⟨b, o + i * 3 + 1, none⟩ = some (.int .i64 (C i)) ∧ W.cell? ⟨b, o + i * 3 + 2, none⟩ = some (.string (M i))) → Below W.heap.size W W' → (W'.cell? ⟨b, o + j * 3, none⟩ = some (.int .i64 (L j)) ∧ W'.cell? ⟨b, o + j * 3 + 1, none⟩ = some (.int .i64 (C j)) ∧ W'.cell? ⟨b, o + j * 3 + 2, none⟩ = some (.string (M j)) ∧ W'.cell? ⟨b, o + i * 3, none⟩ = some (.int .i64 (L i)) ∧ W'.cell? ⟨b, o + i * 3 + 1, none⟩ = some (.int .i64 (C i)) ∧ W'.cell? ⟨b, o + i * 3 + 2, none⟩ = some (.string (M i))) := fun W W' h hb =>
                have hx : F3 L C M b o j W' := F3.on (show F3 L C M b o j W from ⟨h.1, h.2.1, h.2.2.1⟩) hb (World.block_lt_of_cell? W _ h.1)
                have hy : F3 L C M b o i W' := F3.on (show F3 L C M b o i W from ⟨h.2.2.2.1, h.2.2.2.2.1, h.2.2.2.2.2⟩) hb (World.block_lt_of_cell? W _ h.1)
                ⟨hx.1, hx.2.1, hx.2.2, hy.1, hy.2.1, hy.2.2⟩
              clear hc x1 x2 x3 y1 y2 y3
              go_wp2
              cases q1 : bf L C j i
              case true =>
                have hah : ahead L C j i = true := by unfold ahead; rw [q1]; rfl
                rw [q1] at p1
                refine wp_region_noPanic ?_
                refine wp_region_held_drew (S := fun W => W.cell? ⟨b, o + j * 3, none⟩ = some (.int .i64 (L j)) ∧ W.cell? ⟨b, o + j * 3 + 1, none⟩ = some (.int .i64 (C j)) ∧ W.cell? ⟨b, o + j * 3 + 2, none⟩ = some (.string (M j)) ∧ W.cell? ⟨b, o + i * 3, none⟩ = some (.int .i64 (L i)) ∧ W.cell? ⟨b, o + i * 3 + 1, none⟩ = some (.int .i64 (C i)) ∧ W.cell? ⟨b, o + i * 3 + 2, none⟩ = some (.string (M i))) (by kernel_rfl) HS.out (fun hHeld => ?_)
                refine take_at 0 69 (v := ?v0) rfl rfl (by kernel_rfl) (by kernel_rfl) (by kernel_rfl) (fun _ _ _ h => h) (Or.inl ⟨by rfl, ?hy0⟩) (by assumption) ?rest0
                case hy0 => (intro w hSw; (try dsimp only at hSw); go_simp; try (with_reducible rfl))
                try simp only [Act.put, List.setIfInBounds_toArray, List.set_cons_zero, List.set_cons_succ]
                refine take_at 1 70 (v := ?v1) rfl rfl (by kernel_rfl) (by kernel_rfl) (by kernel_rfl) (fun _ _ _ h => h) (Or.inl ⟨by rfl, ?hy1⟩) (by assumption) ?rest1
                case hy1 => (intro w hSw; (try dsimp only at hSw); go_simp; try (with_reducible rfl))
                try simp only [Act.put, List.setIfInBounds_toArray, List.set_cons_zero, List.set_cons_succ]
                refine take_at 2 71 (v := ?v2) rfl rfl (by kernel_rfl) (by kernel_rfl) (by kernel_rfl) (fun _ _ _ h => h) (Or.inl ⟨by rfl, ?hy2⟩) (by assumption) ?rest2
                case hy2 => (intro w hSw; (try dsimp only at hSw); go_simp; try (with_reducible rfl))
                try simp only [Act.put, List.setIfInBounds_toArray, List.set_cons_zero, List.set_cons_succ]
                refine take_at 3 72 (v := ?v3) rfl rfl (by kernel_rfl) (by kernel_rfl) (by kernel_rfl) (fun _ _ _ h => h) (Or.inl ⟨by rfl, ?hy3⟩) (by assumption) ?rest3
                case hy3 => (intro w hSw; (try dsimp only at hSw); go_simp; try (with_reducible rfl))
                try simp only [Act.put, List.setIfInBounds_toArray, List.set_cons_zero, List.set_cons_succ]
                refine take_at 4 73 (v := ?v4) rfl rfl (by kernel_rfl) (by kernel_rfl) (by kernel_rfl) (fun _ _ _ h => h) (Or.inl ⟨by rfl, ?hy4⟩) (by assumption) ?rest4
                case hy4 => (intro w hSw; (try dsimp only at hSw); go_simp; try (with_reducible rfl))
                try simp only [Act.put, List.setIfInBounds_toArray, List.set_cons_zero, List.set_cons_succ]
                refine take_at 5 74 (v := ?v5) rfl rfl (by kernel_rfl) (by kernel_rfl) (by kernel_rfl) (fun _ _ _ h => h) (Or.inl ⟨by rfl, ?hy5⟩) (by assumption) ?rest5
                case hy5 => (intro w hSw; (try dsimp only at hSw); go_simp; try (with_reducible rfl))
                try simp only [Act.put, List.setIfInBounds_toArray, List.set_cons_zero, List.set_cons_succ]
                refine take_at 6 75 (v := ?v6) rfl rfl (by kernel_rfl) (by kernel_rfl) (by kernel_rfl) (fun _ _ _ h => h) (Or.inl ⟨by rfl, ?hy6⟩) (by assumption) ?rest6
                case hy6 => (intro w hSw; (try dsimp only at hSw); go_simp; try (with_reducible rfl))
                try simp only [Act.put, List.setIfInBounds_toArray, List.set_cons_zero, List.set_cons_succ]
                refine take_at 7 76 (v := ?v7) rfl rfl (by kernel_rfl) (by kernel_rfl) (by kernel_rfl) (fun _ _ _ h => h) (Or.inl ⟨by rfl, ?hy7⟩) (by assumption) ?rest7
                case hy7 => (intro w hSw; (try dsimp only at hSw); go_simp; try (with_reducible rfl))
                try simp only [Act.put, List.setIfInBounds_toArray, List.set_cons_zero, List.set_cons_succ]
                refine wpAnyH_ready (rs := [8]) (by kernel_rfl) (by simp) ?_
                refine AllReadyH.cons rfl (fun K hK => ?_) AllReadyH.nil
                go_simp
                refine (p1 _).mono ?_
                rintro e w1 ⟨rfl, hb1⟩
                refine hK.out _ _ (six_on _ _ (by assumption) hb1) (fun hHeld => ?_)
                clear hK K
                try simp only [Act.put, List.setIfInBounds_toArray, List.set_cons_zero, List.set_cons_succ]
                refine take_at 9 78 (v := ?v9) rfl rfl (by kernel_rfl) (by kernel_rfl) (by kernel_rfl) (fun _ _ _ h => h) (Or.inl ⟨by rfl, ?hy9⟩) (by assumption) ?rest9
                case hy9 => (intro w hSw; (try dsimp only at hSw); go_simp; try (with_reducible rfl))
                try simp only [Act.put, List.setIfInBounds_toArray, List.set_cons_zero, List.set_cons_succ]
                refine take_at 10 79 (v := undef) rfl rfl (by kernel_rfl) (by kernel_rfl) (by kernel_rfl) (fun _ _ _ h => h) (Or.inr ⟨by kernel_rfl, rfl⟩) (by assumption) ?_
                try simp only [Act.put, List.setIfInBounds_toArray, List.set_cons_zero, List.set_cons_succ]
                refine take_at 11 80 (v := undef) rfl rfl (by kernel_rfl) (by kernel_rfl) (by kernel_rfl) (fun _ _ _ h => h) (Or.inr ⟨by kernel_rfl, rfl⟩) (by assumption) ?_
                try simp only [Act.put, List.setIfInBounds_toArray, List.set_cons_zero, List.set_cons_succ]
                refine take_at 12 81 (v := undef) rfl rfl (by kernel_rfl) (by kernel_rfl) (by kernel_rfl) (fun _ _ _ h => h) (Or.inr ⟨by kernel_rfl, rfl⟩) (by assumption) ?_
                try simp only [Act.put, List.setIfInBounds_toArray, List.set_cons_zero, List.set_cons_succ]
                refine take_at 13 82 (v := undef) rfl rfl (by kernel_rfl) (by kernel_rfl) (by kernel_rfl) (fun _ _ _ h => h) (Or.inr ⟨by kernel_rfl, rfl⟩) (by assumption) ?_
                try simp only [Act.put, List.setIfInBounds_toArray, List.set_cons_zero, List.set_cons_succ]
                refine take_at 14 83 (v := undef) rfl rfl (by kernel_rfl) (by kernel_rfl) (by kernel_rfl) (fun _ _ _ h => h) (Or.inr ⟨by kernel_rfl, rfl⟩) (by assumption) ?_
                try simp only [Act.put, List.setIfInBounds_toArray, List.set_cons_zero, List.set_cons_succ]
                refine take_at 15 84 (v := undef) rfl rfl (by kernel_rfl) (by kernel_rfl) (by kernel_rfl) (fun _ _ _ h => h) (Or.inr ⟨by kernel_rfl, rfl⟩) (by assumption) ?_
                try simp only [Act.put, List.setIfInBounds_toArray, List.set_cons_zero, List.set_cons_succ]
                refine take_at 16 85 (v := undef) rfl rfl (by kernel_rfl) (by kernel_rfl) (by kernel_rfl) (fun _ _ _ h => h) (Or.inr ⟨by kernel_rfl, rfl⟩) (by assumption) ?_
                try simp only [Act.put, List.setIfInBounds_toArray, List.set_cons_zero, List.set_cons_succ]
                refine take_at 17 86 (v := undef) rfl rfl (by kernel_rfl) (by kernel_rfl) (by kernel_rfl) (fun _ _ _ h => h) (Or.inr ⟨by kernel_rfl, rfl⟩) (by assumption) ?_
                try simp only [Act.put, List.setIfInBounds_toArray, List.set_cons_zero, List.set_cons_succ]
                refine take_at 18 87 (v := undef) rfl rfl (by kernel_rfl) (by kernel_rfl) (by kernel_rfl) (fun _ _ _ h => h) (Or.inr ⟨by kernel_rfl, rfl⟩) (by assumption) ?_
                try simp only [Act.put, List.setIfInBounds_toArray, List.set_cons_zero, List.set_cons_succ]
                refine take_at 19 88 (v := undef) rfl rfl (by kernel_rfl) (by kernel_rfl) (by kernel_rfl) (fun _ _ _ h => h) (Or.inr ⟨by kernel_rfl, rfl⟩) (by assumption) ?_
                try simp only [Act.put, List.setIfInBounds_toArray, List.set_cons_zero, List.set_cons_succ]
                refine take_at 20 89 (v := undef) rfl rfl (by kernel_rfl) (by kernel_rfl) (by kernel_rfl) (fun _ _ _ h => h) (Or.inr ⟨by kernel_rfl, rfl⟩) (by assumption) ?_
                try simp only [Act.put, List.setIfInBounds_toArray, List.set_cons_zero, List.set_cons_succ]
                refine take_at 21 90 (v := undef) rfl rfl (by kernel_rfl) (by kernel_rfl) (by kernel_rfl) (fun _ _ _ h => h) (Or.inr ⟨by kernel_rfl, rfl⟩) (by assumption) ?_
                try simp only [Act.put, List.setIfInBounds_toArray, List.set_cons_zero, List.set_cons_succ]
                refine take_at 22 91 (v := undef) rfl rfl (by kernel_rfl) (by kernel_rfl) (by kernel_rfl) (fun _ _ _ h => h) (Or.inr ⟨by kernel_rfl, rfl⟩) (by assumption) ?_
                try simp only [Act.put, List.setIfInBounds_toArray, List.set_cons_zero, List.set_cons_succ]
                refine take_at 23 92 (v := undef) rfl rfl (by kernel_rfl) (by kernel_rfl) (by kernel_rfl) (fun _ _ _ h => h) (Or.inr ⟨by kernel_rfl, rfl⟩) (by assumption) ?_
                try simp only [Act.put, List.setIfInBounds_toArray, List.set_cons_zero, List.set_cons_succ]
                refine take_at 24 93 (v := undef) rfl rfl (by kernel_rfl) (by kernel_rfl) (by kernel_rfl) (fun _ _ _ h => h) (Or.inr ⟨by kernel_rfl, rfl⟩) (by assumption) ?_
                try simp only [Act.put, List.setIfInBounds_toArray, List.set_cons_zero, List.set_cons_succ]
                refine take_at 25 94 (v := ?v25) rfl rfl (by kernel_rfl) (by kernel_rfl) (by kernel_rfl) (fun _ _ _ h => h) (Or.inl ⟨by rfl, ?hy25⟩) (by assumption) ?rest25
                case hy25 => (intro w hSw; (try dsimp only at hSw); go_simp; try (with_reducible rfl))
                try simp only [Act.put, List.setIfInBounds_toArray, List.set_cons_zero, List.set_cons_succ]
                refine wpAnyH_done (by kernel_rfl) ?_ _
                refine NoPanic.normal ?_
                go_wp2
                go_roundw
                case rel => exact ⟨j + 1, by omega, by go_num, by rw [hrs, if_pos hah]; first | rfl | (congr 1; omega) | go_num, hbj.drew.trans (hb1.mono hsz)⟩
                case measure => simp [intOf]; omega
              case false =>
                cases q2 : bf L C i j
                case true =>
                  have hah : ahead L C j i = false := by unfold ahead; rw [q1, q2]; rfl
                  rw [q1] at p1
                  rw [q2] at p2
                  refine wp_region_noPanic ?_
                  refine wp_region_held_drew (S := fun W => W.cell? ⟨b, o + j * 3, none⟩ = some (.int .i64 (L j)) ∧ W.cell? ⟨b, o + j * 3 + 1, none⟩ = some (.int .i64 (C j)) ∧ W.cell? ⟨b, o + j * 3 + 2, none⟩ = some (.string (M j)) ∧ W.cell? ⟨b, o + i * 3, none⟩ = some (.int .i64 (L i)) ∧ W.cell? ⟨b, o + i * 3 + 1, none⟩ = some (.int .i64 (C i)) ∧ W.cell? ⟨b, o + i * 3 + 2, none⟩ = some (.string (M i))) (by kernel_rfl) HS.out (fun hHeld => ?_)
                  refine take_at 0 69 (v := ?vb0) rfl rfl (by kernel_rfl) (by kernel_rfl) (by kernel_rfl) (fun _ _ _ h => h) (Or.inl ⟨by rfl, ?hyb0⟩) (by assumption) ?restb0
                  case hyb0 => (intro w hSw; (try dsimp only at hSw); go_simp; try (with_reducible rfl))
                  try simp only [Act.put, List.setIfInBounds_toArray, List.set_cons_zero, List.set_cons_succ]
                  refine take_at 1 70 (v := ?vb1) rfl rfl (by kernel_rfl) (by kernel_rfl) (by kernel_rfl) (fun _ _ _ h => h) (Or.inl ⟨by rfl, ?hyb1⟩) (by assumption) ?restb1
                  case hyb1 => (intro w hSw; (try dsimp only at hSw); go_simp; try (with_reducible rfl))
                  try simp only [Act.put, List.setIfInBounds_toArray, List.set_cons_zero, List.set_cons_succ]
                  refine take_at 2 71 (v := ?vb2) rfl rfl (by kernel_rfl) (by kernel_rfl) (by kernel_rfl) (fun _ _ _ h => h) (Or.inl ⟨by rfl, ?hyb2⟩) (by assumption) ?restb2
                  case hyb2 => (intro w hSw; (try dsimp only at hSw); go_simp; try (with_reducible rfl))
                  try simp only [Act.put, List.setIfInBounds_toArray, List.set_cons_zero, List.set_cons_succ]
                  refine take_at 3 72 (v := ?vb3) rfl rfl (by kernel_rfl) (by kernel_rfl) (by kernel_rfl) (fun _ _ _ h => h) (Or.inl ⟨by rfl, ?hyb3⟩) (by assumption) ?restb3
                  case hyb3 => (intro w hSw; (try dsimp only at hSw); go_simp; try (with_reducible rfl))
                  try simp only [Act.put, List.setIfInBounds_toArray, List.set_cons_zero, List.set_cons_succ]
                  refine take_at 4 73 (v := ?vb4) rfl rfl (by kernel_rfl) (by kernel_rfl) (by kernel_rfl) (fun _ _ _ h => h) (Or.inl ⟨by rfl, ?hyb4⟩) (by assumption) ?restb4
                  case hyb4 => (intro w hSw; (try dsimp only at hSw); go_simp; try (with_reducible rfl))
                  try simp only [Act.put, List.setIfInBounds_toArray, List.set_cons_zero, List.set_cons_succ]
                  refine take_at 5 74 (v := ?vb5) rfl rfl (by kernel_rfl) (by kernel_rfl) (by kernel_rfl) (fun _ _ _ h => h) (Or.inl ⟨by rfl, ?hyb5⟩) (by assumption) ?restb5
                  case hyb5 => (intro w hSw; (try dsimp only at hSw); go_simp; try (with_reducible rfl))
                  try simp only [Act.put, List.setIfInBounds_toArray, List.set_cons_zero, List.set_cons_succ]
                  refine take_at 6 75 (v := ?vb6) rfl rfl (by kernel_rfl) (by kernel_rfl) (by kernel_rfl) (fun _ _ _ h => h) (Or.inl ⟨by rfl, ?hyb6⟩) (by assumption) ?restb6
                  case hyb6 => (intro w hSw; (try dsimp only at hSw); go_simp; try (with_reducible rfl))
                  try simp only [Act.put, List.setIfInBounds_toArray, List.set_cons_zero, List.set_cons_succ]
                  refine take_at 7 76 (v := ?vb7) rfl rfl (by kernel_rfl) (by kernel_rfl) (by kernel_rfl) (fun _ _ _ h => h) (Or.inl ⟨by rfl, ?hyb7⟩) (by assumption) ?restb7
                  case hyb7 => (intro w hSw; (try dsimp only at hSw); go_simp; try (with_reducible rfl))
                  try simp only [Act.put, List.setIfInBounds_toArray, List.set_cons_zero, List.set_cons_succ]
                  refine wpAnyH_ready (rs := [8]) (by kernel_rfl) (by simp) ?_
                  refine AllReadyH.cons rfl (fun K hK => ?_) AllReadyH.nil
                  go_simp
                  refine (p1 _).mono ?_
                  rintro e w1 ⟨rfl, hb1⟩
                  refine hK.out _ _ (six_on _ _ (by assumption) hb1) (fun hHeld => ?_)
                  clear hK K
                  try simp only [Act.put, List.setIfInBounds_toArray, List.set_cons_zero, List.set_cons_succ]
                  refine take_at 9 78 (v := ?vb9) rfl rfl (by kernel_rfl) (by kernel_rfl) (by kernel_rfl) (fun _ _ _ h => h) (Or.inl ⟨by rfl, ?hyb9⟩) (by assumption) ?restb9
                  case hyb9 => (intro w hSw; (try dsimp only at hSw); go_simp; try (with_reducible rfl))
                  try simp only [Act.put, List.setIfInBounds_toArray, List.set_cons_zero, List.set_cons_succ]
                  refine take_at 10 79 (v := ?vb10) rfl rfl (by kernel_rfl) (by kernel_rfl) (by kernel_rfl) (fun _ _ _ h => h) (Or.inl ⟨by rfl, ?hyb10⟩) (by assumption) ?restb10
                  case hyb10 => (intro w hSw; (try dsimp only at hSw); go_simp; try (with_reducible rfl))
                  try simp only [Act.put, List.setIfInBounds_toArray, List.set_cons_zero, List.set_cons_succ]
                  refine take_at 11 80 (v := ?vb11) rfl rfl (by kernel_rfl) (by kernel_rfl) (by kernel_rfl) (fun _ _ _ h => h) (Or.inl ⟨by rfl, ?hyb11⟩) (by assumption) ?restb11
                  case hyb11 => (intro w hSw; (try dsimp only at hSw); go_simp; try (with_reducible rfl))
                  try simp only [Act.put, List.setIfInBounds_toArray, List.set_cons_zero, List.set_cons_succ]
                  refine take_at 12 81 (v := ?vb12) rfl rfl (by kernel_rfl) (by kernel_rfl) (by kernel_rfl) (fun _ _ _ h => h) (Or.inl ⟨by rfl, ?hyb12⟩) (by assumption) ?restb12
                  case hyb12 => (intro w hSw; (try dsimp only at hSw); go_simp; try (with_reducible rfl))
                  try simp only [Act.put, List.setIfInBounds_toArray, List.set_cons_zero, List.set_cons_succ]
                  refine take_at 13 82 (v := ?vb13) rfl rfl (by kernel_rfl) (by kernel_rfl) (by kernel_rfl) (fun _ _ _ h => h) (Or.inl ⟨by rfl, ?hyb13⟩) (by assumption) ?restb13
                  case hyb13 => (intro w hSw; (try dsimp only at hSw); go_simp; try (with_reducible rfl))
                  try simp only [Act.put, List.setIfInBounds_toArray, List.set_cons_zero, List.set_cons_succ]
                  refine take_at 14 83 (v := ?vb14) rfl rfl (by kernel_rfl) (by kernel_rfl) (by kernel_rfl) (fun _ _ _ h => h) (Or.inl ⟨by rfl, ?hyb14⟩) (by assumption) ?restb14
                  case hyb14 => (intro w hSw; (try dsimp only at hSw); go_simp; try (with_reducible rfl))
                  try simp only [Act.put, List.setIfInBounds_toArray, List.set_cons_zero, List.set_cons_succ]
                  refine take_at 15 84 (v := ?vb15) rfl rfl (by kernel_rfl) (by kernel_rfl) (by kernel_rfl) (fun _ _ _ h => h) (Or.inl ⟨by rfl, ?hyb15⟩) (by assumption) ?restb15
                  case hyb15 => (intro w hSw; (try dsimp only at hSw); go_simp; try (with_reducible rfl))
                  try simp only [Act.put, List.setIfInBounds_toArray, List.set_cons_zero, List.set_cons_succ]
                  refine take_at 16 85 (v := ?vb16) rfl rfl (by kernel_rfl) (by kernel_rfl) (by kernel_rfl) (fun _ _ _ h => h) (Or.inl ⟨by rfl, ?hyb16⟩) (by assumption) ?restb16
                  case hyb16 => (intro w hSw; (try dsimp only at hSw); go_simp; try (with_reducible rfl))
                  try simp only [Act.put, List.setIfInBounds_toArray, List.set_cons_zero, List.set_cons_succ]
                  refine take_at 17 86 (v := ?vb17) rfl rfl (by kernel_rfl) (by kernel_rfl) (by kernel_rfl) (fun _ _ _ h => h) (Or.inl ⟨by rfl, ?hyb17⟩) (by assumption) ?restb17
                  case hyb17 => (intro w hSw; (try dsimp only at hSw); go_simp; try (with_reducible rfl))
                  try simp only [Act.put, List.setIfInBounds_toArray, List.set_cons_zero, List.set_cons_succ]
                  refine wpAnyH_ready (rs := [18]) (by kernel_rfl) (by simp) ?_
                  refine AllReadyH.cons rfl (fun K hK => ?_) AllReadyH.nil
                  go_simp
                  refine (p2 _).mono ?_
                  rintro e w2 ⟨rfl, hb2⟩
                  refine hK.out _ _ (six_on _ _ (by assumption) hb2) (fun hHeld => ?_)
                  clear hK K
                  try simp only [Act.put, List.setIfInBounds_toArray, List.set_cons_zero, List.set_cons_succ]
                  refine take_at 19 88 (v := ?vb19) rfl rfl (by kernel_rfl) (by kernel_rfl) (by kernel_rfl) (fun _ _ _ h => h) (Or.inl ⟨by rfl, ?hyb19⟩) (by assumption) ?restb19
                  case hyb19 => (intro w hSw; (try dsimp only at hSw); go_simp; try (with_reducible rfl))
                  try simp only [Act.put, List.setIfInBounds_toArray, List.set_cons_zero, List.set_cons_succ]
                  refine take_at 20 89 (v := ?vb20) rfl rfl (by kernel_rfl) (by kernel_rfl) (by kernel_rfl) (fun _ _ _ h => h) (Or.inl ⟨by rfl, ?hyb20⟩) (by assumption) ?restb20
                  case hyb20 => (intro w hSw; (try dsimp only at hSw); go_simp; try (with_reducible rfl))
                  try simp only [Act.put, List.setIfInBounds_toArray, List.set_cons_zero, List.set_cons_succ]
                  refine take_at 21 90 (v := undef) rfl rfl (by kernel_rfl) (by kernel_rfl) (by kernel_rfl) (fun _ _ _ h => h) (Or.inr ⟨by kernel_rfl, rfl⟩) (by assumption) ?_
                  try simp only [Act.put, List.setIfInBounds_toArray, List.set_cons_zero, List.set_cons_succ]
                  refine take_at 22 91 (v := undef) rfl rfl (by kernel_rfl) (by kernel_rfl) (by kernel_rfl) (fun _ _ _ h => h) (Or.inr ⟨by kernel_rfl, rfl⟩) (by assumption) ?_
                  try simp only [Act.put, List.setIfInBounds_toArray, List.set_cons_zero, List.set_cons_succ]
                  refine take_at 23 92 (v := undef) rfl rfl (by kernel_rfl) (by kernel_rfl) (by kernel_rfl) (fun _ _ _ h => h) (Or.inr ⟨by kernel_rfl, rfl⟩) (by assumption) ?_
                  try simp only [Act.put, List.setIfInBounds_toArray, List.set_cons_zero, List.set_cons_succ]
                  refine take_at 24 93 (v := ?vb24) rfl rfl (by kernel_rfl) (by kernel_rfl) (by kernel_rfl) (fun _ _ _ h => h) (Or.inl ⟨by rfl, ?hyb24⟩) (by assumption) ?restb24
                  case hyb24 => (intro w hSw; (try dsimp only at hSw); go_simp; try (with_reducible rfl))
                  try simp only [Act.put, List.setIfInBounds_toArray, List.set_cons_zero, List.set_cons_succ]
                  refine take_at 25 94 (v := ?vb25) rfl rfl (by kernel_rfl) (by kernel_rfl) (by kernel_rfl) (fun _ _ _ h => h) (Or.inl ⟨by rfl, ?hyb25⟩) (by assumption) ?restb25
                  case hyb25 => (intro w hSw; (try dsimp only at hSw); go_simp; try (with_reducible rfl))
                  try simp only [Act.put, List.setIfInBounds_toArray, List.set_cons_zero, List.set_cons_succ]
                  refine wpAnyH_done (by kernel_rfl) ?_ _
                  refine NoPanic.normal ?_
                  go_wp2
                  go_roundw
                  case rel => exact ⟨j + 1, by omega, by go_num, by rw [hrs, if_neg (by rw [hah]; simp)]; rfl, (hbj.drew.trans (hb1.mono hsz)).trans (hb2.mono (Nat.le_trans hsz hb1.size))⟩
                  case measure => simp [intOf]; omega
                case false =>
                  by_cases q3 : j < i
                  case pos =>
                    have hah : ahead L C j i = true := by unfold ahead; rw [q1, q2]; simpa using q3
                    have q3' : (j : Int) < (i : Int) := by omega
                    rw [q1] at p1
                    rw [q2] at p2
                    go_region_held3 (fun W => W.cell? ⟨b, o + j * 3, none⟩ = some (.int .i64 (L j)) ∧ W.cell? ⟨b, o + j * 3 + 1, none⟩ = some (.int .i64 (C j)) ∧ W.cell? ⟨b, o + j * 3 + 2, none⟩ = some (.string (M j)) ∧ W.cell? ⟨b, o + i * 3, none⟩ = some (.int .i64 (L i)) ∧ W.cell? ⟨b, o + i * 3 + 1, none⟩ = some (.int .i64 (C i)) ∧ W.cell? ⟨b, o + i * 3 + 2, none⟩ = some (.string (M i)))
                      (first | exact HS.out | exact six_on _ _ (by assumption) hb2 | exact six_on _ _ (by assumption) hb1)
                      ((go_at_call 25
                        first
                          | (with_reducible refine (p1 _).mono ?_
                             rintro e w1 ⟨rfl, hb1⟩)
                          | (with_reducible refine (p2 _).mono ?_
                             rintro e w2 ⟨rfl, hb2⟩)))
                    go_wp2
                    go_roundw
                    case rel => exact ⟨j + 1, by omega, by go_num, by rw [hrs, if_pos hah]; first | rfl | (congr 1; omega) | go_num, (hbj.drew.trans (hb1.mono hsz)).trans (hb2.mono (Nat.le_trans hsz hb1.size))⟩
                    case measure => simp [intOf]; omega
                  case neg =>
                    have hah : ahead L C j i = false := by unfold ahead; rw [q1, q2]; simpa using q3
                    have q3' : (i : Int) ≤ (j : Int) := by omega
                    rw [q1] at p1
                    rw [q2] at p2
                    go_region_held3 (fun W => W.cell? ⟨b, o + j * 3, none⟩ = some (.int .i64 (L j)) ∧ W.cell? ⟨b, o + j * 3 + 1, none⟩ = some (.int .i64 (C j)) ∧ W.cell? ⟨b, o + j * 3 + 2, none⟩ = some (.string (M j)) ∧ W.cell? ⟨b, o + i * 3, none⟩ = some (.int .i64 (L i)) ∧ W.cell? ⟨b, o + i * 3 + 1, none⟩ = some (.int .i64 (C i)) ∧ W.cell? ⟨b, o + i * 3 + 2, none⟩ = some (.string (M i)))
                      (first | exact HS.out | exact six_on _ _ (by assumption) hb2 | exact six_on _ _ (by assumption) hb1)
                      ((go_at_call 25
                        first
                          | (with_reducible refine (p1 _).mono ?_
                             rintro e w1 ⟨rfl, hb1⟩)
                          | (with_reducible refine (p2 _).mono ?_
                             rintro e w2 ⟨rfl, hb2⟩)))
                    go_wp2
                    go_roundw
                    case rel => exact ⟨j + 1, by omega, by go_num, by rw [hrs, if_neg (by rw [hah]; simp)]; rfl, (hbj.drew.trans (hb1.mono hsz)).trans (hb2.mono (Nat.le_trans hsz hb1.size))⟩
                    case measure => simp [intOf]; omega
            · obtain rfl : j = k := by omega
              have hrk := rank_lt (L := L) (C := C) hik
              have hsr := srt_rank (L := L) (C := C) hik
              obtain ⟨g, rfl⟩ : ∃ g, sa = some ⟨g, 0, none⟩ := by
                rcases hown.2 with ⟨h1, h2⟩ | ⟨g, cap, cur, h1, _⟩
                · omega
                · injection h1 with h1; exact ⟨g, h1⟩
              have q1 : Wa.cell? ⟨g, rank L C j i, none⟩ = some (ptr A i) := by
                rw [hown.cellAt _ (by omega), List.getElem?_map, hsr]; rfl
              have q2 : Wa.cell? ⟨w.heap.size, i, none⟩ = some (ptr A i) := hBs.row i hik
              have r1 : wr.cell? ⟨g, rank L C j i, none⟩ = some (.pointer (some ⟨A i, 0, none⟩)) := (hbj.cell (p := ⟨g, _, none⟩) (World.block_lt_of_cell? Wa _ q1)).trans q1
              have r2 : wr.cell? ⟨w.heap.size, i, none⟩ = some (.pointer (some ⟨A i, 0, none⟩)) := (hbj.cell (p := ⟨w.heap.size, _, none⟩) (World.block_lt_of_cell? Wa _ q2)).trans q2
              have hrk' : (rank L C j i : Int) < (j : Int) := by omega
              have HT : Hid (wr.drew.cell? ⟨g, rank L C j i, none⟩ = some (.pointer (some ⟨A i, 0, none⟩)) ∧ wr.drew.cell? ⟨w.heap.size, i, none⟩ = some (.pointer (some ⟨A i, 0, none⟩))) := ⟨r1, r2⟩
              have hne := neq_same ⟨A i, 0, none⟩
              clear q1 q2 hsr r1 r2
              go_wp2
              go_region_held3 (fun W => W.cell? ⟨g, rank L C j i, none⟩ = some (.pointer (some ⟨A i, 0, none⟩)) ∧ W.cell? ⟨w.heap.size, i, none⟩ = some (.pointer (some ⟨A i, 0, none⟩)))
                (exact HT.out)
                ((fail))
              go_wp2
              go_roundw
              case rel => exact ⟨i + 1, by omega, by go_num, by first | exact hbj | exact hbj.drew⟩
              case measure => simp [intOf]; omega
        · obtain rfl : i = k := by omega
          go_wp2
          go_ret
          exact ⟨rfl, hbl.trans (hbi.mono hbl.size)⟩
end Go.Proofs.Qxb6608988a
