/-
  slices.Insert at []*Error, one value, ahead of the end: there is room.
-/
import Derived.Test.Qxb6608988aKit
import Derived.Shelf.Spec.SlicesInsertGrow
import Derived.Laws.CopyOwn
namespace Go.Proofs.Qxb6608988a
set_option linter.unusedSimpArgs false
set_option linter.unusedVariables false
open Go.RowKit Go.Lib

theorem Try.info51 : (Try.prog.info? 51).map (fun i => (i.zero, i.size, i.bytes)) = some (some (.pointer none), 1, 8) := by kernel_rfl

/-- A slice of one pointer, in a block of its own. -/
def Lit (g : Nat) (x : Value) (w : World) : Prop := w.heap[g]? = some (.cells #[x] 51 (0, 0))

theorem hov (g n cap vb i : Nat) (cur : List Value) (x : Value) (w : World) (hne : vb ≠ g) (hg : w.heap[g]? = some (.cells cur.toArray 51 (0, 0))) (hv : Lit vb x w) (hc : cur ≠ []) (lb cb : Nat) :
    (callFunc 31 #[.slice (some ⟨vb, 0, none⟩) 1 1, .slice (some ⟨g, i + 1, none⟩) lb cb]).run Try.prog w = .ok (.value (.bool false)) w := by
  rw [run_callFunc_extern Try.func31 (by kernel_rfl) (by kernel_rfl) (by kernel_rfl) (e := Extern.SlicesOverlaps.overlaps #[49, 49] #[4]) (by kernel_rfl),
    Lib.run_overlaps_apart w 49 4 51 Try.underlying49 1 Try.sizeOf51 ⟨vb, 0, none⟩ ⟨g, i + 1, none⟩ 1 1 lb cb hne 51 51 1 cur.length (by unfold World.shape?; rw [hv]; rfl) (by unfold World.shape?; rw [hg]; simp) (by simpa using hc) (frozen_of_row _ _ _ _ _ hv) (frozen_of_row _ _ _ _ _ hv)]
  rfl

/-- Behind the shift. -/
def row1 (cur : List Value) (i n : Nat) : List Value := cur.take (i + 1) ++ (cur.drop i).take (n - i) ++ cur.drop (i + 1 + (n - i))
/-- Behind the value's own copy. -/
def row2 (cur : List Value) (i n : Nat) (x : Value) : List Value := (row1 cur i n).take i ++ [x] ++ (row1 cur i n).drop (i + 1)
theorem row1_len {cur : List Value} {i n : Nat} (hi : i < n) (hn : n + 1 ≤ cur.length) : (row1 cur i n).length = cur.length := by
  simp [row1]; omega
theorem row2_eq {cur : List Value} {i n : Nat} {x : Value} (hi : i < n) (hn : n + 1 ≤ cur.length) : row2 cur i n x = cur.take i ++ x :: ((cur.drop i).take (n - i) ++ cur.drop (n + 1)) := by
  unfold row2 row1
  have e1 : (cur.take (i + 1)).length = i + 1 := by simp; omega
  rw [List.append_assoc (cur.take (i + 1)), List.take_append_of_le_length (by omega), List.take_take, Nat.min_eq_left (by omega), List.drop_left' e1, show i + 1 + (n - i) = n + 1 by omega]
  simp

set_option maxHeartbeats 4000000 in
set_option maxRecDepth 100000 in
theorem insert_room (g n cap i vb : Nat) (cur : List Value) (x : Value) (w : World) (hi : i < n) (hroom : n + 1 ≤ cap) (hc63 : cap ≤ 9223372036854775807) (hcl : cur.length = cap) (hne : vb ≠ g) (hg : w.heap[g]? = some (.cells cur.toArray 51 (0, 0))) (hv : Lit vb x w)
    (h1 : ∀ u ∈ (cur.drop i).take (n - i), u.oneCell' = true) (hx : x.oneCell' = true) :
    Calls Try.prog 30 #[.slice (some ⟨g, 0, none⟩) n cap, .int .i64 i, .slice (some ⟨vb, 0, none⟩) 1 1] w fun e w' =>
      e = .returned (.slice (some ⟨g, 0, none⟩) (n + 1) cap) ∧ w' = (w.drew.setRow g (row1 cur i n).toArray).setRow g (row2 cur i n x).toArray := by
  have u50 := run_underlying Try.underlying50; have u49 := run_underlying Try.underlying49; have t50 := Try.underlying50; have t49 := Try.underlying49
  have hov' := hov g n cap vb i cur x w hne hg hv (by intro e; subst e; simp at hcl; omega)
  have hsz : (Try.prog.info? 51).map (·.size) = some 1 := by
    obtain ⟨i0, hi0, _, h1, _⟩ := info_parts Try.info51
    rw [hi0]; simp [h1]
  have hz2 : ¬ ((i : Int) = (n : Int)) := by omega
  have hw1 : IntKind.i64.wrap ((i : Int) + 1) = (i : Int) + 1 := by rw [IntKind.wrap_i64]; omega
  have hb1 : (0 : Int) ≤ (i : Int) + 1 := by omega
  have hin : i ≤ n := by omega
  have htn : ((i : Int) + 1).toNat = i + 1 := by omega
  have hb2 : ¬ (cap = i + 1) := by omega
  have hb3 : (i : Int) ≤ (n : Int) + 1 := by omega
  have hb4 : ¬ (cap = i) := by omega
  have htl : ((cur.drop i).take (n - i)).length = n - i := by simp; omega
  have hcp1 : ∀ ty dc sc, (Builtin.copy_ #[50, 50] ty #[.slice (some ⟨g, i + 1, none⟩) (n + 1 - (i + 1)) dc, .slice (some ⟨g, i, none⟩) (n + 1 - i) sc]).run Try.prog w.drew = .ok (goInt ((cur.drop i).take (n - i)).length) (w.drew.setRow g (row1 cur i n).toArray) := fun ty dc sc => by
    have := run_copy_row (P := Try.prog) w.drew 50 50 ty 51 g (i + 1) (n + 1 - (i + 1)) dc ⟨g, i, none⟩ (n + 1 - i) sc cur.toArray 51 ((cur.drop i).take (n - i)) Try.underlying50 hsz hg (by rw [htl]; simp only [Nat.min_def]; split <;> omega)
      (fun j v hj => by
        rw [Addr.add_mid, show w.drew.cell? ⟨g, i + j, none⟩ = w.cell? ⟨g, i + j, none⟩ from rfl, cell_of_row _ _ _ _ _ _ hg]
        have hj' : j < n - i := by
          rcases Nat.lt_or_ge j (n - i) with h | h
          · exact h
          · rw [List.getElem?_eq_none (by omega)] at hj; cases hj
        rw [List.getElem?_take_of_lt hj', List.getElem?_drop] at hj
        simpa using hj)
      (by rw [htl]; simp; omega) h1
    rw [this]
    simp [row1, htl]
  obtain ⟨W1, hW1⟩ : ∃ W1, W1 = w.drew.setRow g (row1 cur i n).toArray := ⟨_, rfl⟩
  have hg1 : W1.heap[g]? = some (.cells (row1 cur i n).toArray 51 (0, 0)) := by rw [hW1]; exact setRow_heap w.drew g cur.toArray _ 51 _ hg
  have hv1 : Lit vb x W1 := by unfold Lit; rw [hW1, setRow_other _ _ _ _ hne]; exact hv
  have hcp2 : ∀ (W : World), W = W1 → ∀ ty dc, (Builtin.copy_ #[50, 49] ty #[.slice (some ⟨g, i, none⟩) (n + 1 - i) dc, .slice (some ⟨vb, 0, none⟩) 1 1]).run Try.prog W = .ok (goInt 1) (W.setRow g (row2 cur i n x).toArray) := fun W hW ty dc => by
    rw [hW]
    have := run_copy_row (P := Try.prog) W1 50 49 ty 51 g i (n + 1 - i) dc ⟨vb, 0, none⟩ 1 1 (row1 cur i n).toArray 51 [x] Try.underlying50 hsz hg1 (by simp only [List.length_singleton, Nat.min_def]; split <;> omega)
      (fun j v hj => by
        rcases j with _ | j
        · obtain rfl : x = v := by simpa using hj
          rw [Addr.add_mid, cell_of_row _ _ _ _ _ _ hv1]; rfl
        · simp at hj)
      (by have := row1_len hi (show n + 1 ≤ cur.length by omega); simp [this]; omega) (List.forall_mem_singleton.2 hx)
    rw [this]
    simp [row2]
  rw [← hW1] at hcp1 ⊢
  go_enter Try.func30, Try.ntmps30
  go_wp2_with (simp only [hov'])
  have mixed : Try.prog.follows .mixedOrders = true := by kernel_rfl
  have hss : n + 1 - (i + 1) = n - i := by omega
  rw [hss] at hcp1
  go_region_law_o (refine step_copy_runI rfl (.tmp 73) (.tmp 76) 50 50 rfl (.slice (some ⟨g, i + 1, none⟩) (n - i) (cap - (i + 1))) (.slice (some ⟨g, i, none⟩) (n + 1 - i) (cap - i)) (by simp [Act.eval, Act.put]) (by simp [Act.eval, Act.put]) (hcp1 _ _ _) ?_)
  go_wp2_with (at_builtin; refine wpList_copy_runI _ rfl _ _ 50 49 rfl _ _ rfl rfl (hcp2 _ rfl _ _) ?_)
  go_ret
  exact ⟨rfl, by rw [hW1]⟩

theorem zeros_eq (m : Nat) : (Builtin.zeroCells (Value.pointer none).cells m).toList = List.replicate m (.pointer none) := by
  unfold Builtin.zeroCells
  apply List.ext_getElem?
  intro j
  by_cases hj : j < m
  · simp [Value.cells, hj, List.getElem?_replicate, Nat.mod_one]
  · simp [Value.cells, hj, List.getElem?_replicate]
/-- The new row as append lays it. -/
def rowZ (cs : List Value) (i n G : Nat) : List Value := cs.take i ++ (List.replicate (n + 1 - i) (.pointer none) ++ List.replicate (G - (n + 1)) (.pointer none))
def rowA (cs : List Value) (i n G : Nat) (x : Value) : List Value := (rowZ cs i n G).take i ++ [x] ++ (rowZ cs i n G).drop (i + 1)
def rowB (cs : List Value) (i n G : Nat) (x : Value) : List Value := (rowA cs i n G x).take (i + 1) ++ cs.drop i ++ (rowA cs i n G x).drop (i + 1 + (n - i))
theorem rowZ_len {cs : List Value} {i n G : Nat} (hi : i < n) (hn : cs.length = n) (hG : n + 1 ≤ G) : (rowZ cs i n G).length = G := by
  simp [rowZ]; omega
theorem rowA_len {cs : List Value} {i n G : Nat} {x : Value} (hi : i < n) (hn : cs.length = n) (hG : n + 1 ≤ G) : (rowA cs i n G x).length = G := by
  have := rowZ_len hi hn hG
  simp [rowA, this]; omega
theorem rowB_len {cs : List Value} {i n G : Nat} {x : Value} (hi : i < n) (hn : cs.length = n) (hG : n + 1 ≤ G) : (rowB cs i n G x).length = G := by
  have := rowA_len (x := x) hi hn hG
  simp [rowB, this]; omega
theorem rowB_take {cs : List Value} {i n G : Nat} {x : Value} (hi : i < n) (hn : cs.length = n) (hG : n + 1 ≤ G) : (rowB cs i n G x).take (n + 1) = cs.take i ++ x :: cs.drop i := by
  have hz := rowZ_len hi hn hG
  have e0 : (cs.take i).length = i := by simp; omega
  have e1 : (rowA cs i n G x).take (i + 1) = cs.take i ++ [x] := by
    unfold rowA
    rw [List.take_append_of_le_length (by simp [hz]; omega), List.take_of_length_le (by simp; omega), show (rowZ cs i n G).take i = cs.take i by unfold rowZ; rw [List.take_left' e0]]
  unfold rowB
  rw [e1, List.take_append_of_le_length (by simp; omega), List.take_of_length_le (by simp; omega)]
  simp

set_option maxHeartbeats 4000000 in
set_option maxRecDepth 100000 in
theorem insert_grow (g n c i vb : Nat) (cs : List Value) (x : Value) (w : World) (hi : i < n) (hnc : n ≤ c) (hroom : c < n + 1) (hbig : n ≤ 4096) (hcl : cs.length = n) (hcs : ∀ j v, cs[j]? = some v → w.cell? ⟨g, j, none⟩ = some v) (hv : Lit vb x w)
    (h1c : ∀ u ∈ cs, u.oneCell' = true) (hx : x.oneCell' = true) :
    Calls Try.prog 30 #[.slice (some ⟨g, 0, none⟩) n c, .int .i64 i, .slice (some ⟨vb, 0, none⟩) 1 1] w fun e w' => ∃ G, n + 1 ≤ G ∧ G ≤ maxLen ∧
      e = .returned (.slice (some ⟨w.heap.size, 0, none⟩) (n + 1) G) ∧ w'.heap[w.heap.size]? = some (.cells (rowB cs i n G x).toArray 51 (0, 0)) ∧ w.grownBy w' none := by
  have u50 := run_underlying Try.underlying50; have u49 := run_underlying Try.underlying49; have t50 := Try.underlying50; have t49 := Try.underlying49; have t3 := Try.underlying3
  have mixed : Try.prog.follows .mixedOrders = true := by kernel_rfl
  obtain ⟨i0, hi0, hz0, hzs, hzb⟩ := info_parts Try.info51
  have hsz : (Try.prog.info? 51).map (·.size) = some 1 := by rw [hi0]; simp [hzs]
  have hz2 : ¬ ((i : Int) = (n : Int)) := by omega
  have hz3 : (c : Int) < (n : Int) + 1 := by omega
  have hbw : g < w.heap.size := block_lt_of_cell (hcs 0 _ (List.getElem?_eq_getElem (by omega)))
  have hvw : vb < w.heap.size := (Array.getElem?_eq_some_iff.1 hv).1
  have hkk : (n : Int) + 1 - (i : Int) = ((n + 1 - i : Nat) : Int) := by omega
  have hik : i + (n + 1 - i) = n + 1 := by omega
  have hold : (Builtin.firstCells i0.size i (.slice (some ⟨g, 0, none⟩) i c)).run Try.prog w.drew = .ok (cs.take i).toArray w.drew := by
    rw [hzs]
    exact run_firstCells_some w.drew 1 i ⟨g, 0, none⟩ i c (cs.take i) (by rw [List.length_take]; omega) (fun j v hj => by
      rw [Addr.add_lit]
      rw [List.getElem?_take] at hj
      split at hj
      · simpa using hcs j v hj
      · cases hj)
  obtain ⟨G, hG⟩ : ∃ G, G = grownCap w (n + 1) c 51 := ⟨_, rfl⟩
  have hGn : n + 1 ≤ G := by rw [hG]; exact grownCap_ge w _ _ _
  have hGm : G ≤ maxLen := by rw [hG]; exact grownCap_le_maxLen w (n + 1) c 51 (by unfold maxLen; omega)
  have hrz : ∀ ty, (Builtin.append_ #[50, 3] ty #[.slice (some ⟨g, 0, none⟩) i c, .int .i64 ((n : Int) + 1 - (i : Int))]).run Try.prog w =
      .ok (.slice (some ⟨w.heap.size, 0, none⟩) (n + 1) G) (w.drew.alloc (.cells (rowZ cs i n G).toArray 51)) := fun ty => by
    have h := Lib.run_append_grow_zeros w 50 3 ty 51 i0 _ .i64 .i64 Try.underlying50 Try.underlying3 hi0 hz0 (some ⟨g, 0, none⟩) i c (cs.take i) hold (n + 1 - i) (by omega) (by omega) (by omega) (by omega) (by rw [hzb]; omega) (by rw [hzb, hik]; exact growslice_fits hroom (by omega))
    rw [hik] at h
    rw [hkk, h, ← hG]
    congr 3
    apply Array.ext'
    simp only [rowZ, Array.toList_append, zeros_eq, List.append_assoc]
  have hne1 : g ≠ w.heap.size := by omega
  have hne2 : vb ≠ w.heap.size := by omega
  have hcpA : ∀ (W : World), W.heap = (w.drew.alloc (.cells (rowZ cs i n G).toArray 51)).heap → ∀ ty dc, (Builtin.copy_ #[50, 49] ty #[.slice (some ⟨w.heap.size, i, none⟩) (n + 1 - i) dc, .slice (some ⟨vb, 0, none⟩) 1 1]).run Try.prog W = .ok (goInt 1) (W.setRow w.heap.size (rowA cs i n G x).toArray) := fun W hW ty dc => by
    have hgW : W.heap[w.heap.size]? = some (.cells (rowZ cs i n G).toArray 51 (0, 0)) := by rw [hW]; exact heap_alloc_new w.drew _
    have hvW : Lit vb x W := by unfold Lit; rw [hW, show (w.drew.alloc (.cells (rowZ cs i n G).toArray 51)).heap[vb]? = w.heap[vb]? from Below.heap_alloc w.drew _ vb hvw]; exact hv
    have := run_copy_row (P := Try.prog) W 50 49 ty 51 w.heap.size i (n + 1 - i) dc ⟨vb, 0, none⟩ 1 1 (rowZ cs i n G).toArray 51 [x] Try.underlying50 hsz hgW (by simp only [List.length_singleton, Nat.min_def]; split <;> omega)
      (fun j v hj => by
        rcases j with _ | j
        · obtain rfl : x = v := by simpa using hj
          rw [Addr.add_mid, cell_of_row _ _ _ _ _ _ hvW]; rfl
        · simp at hj)
      (by have := rowZ_len hi hcl hGn; simp [this]; omega) (List.forall_mem_singleton.2 hx)
    rw [this]
    simp [rowA]
  have hdl : (cs.drop i).length = n - i := by rw [List.length_drop, hcl]
  have hcpB : ∀ (W : World), W.heap = ((w.drew.alloc (.cells (rowZ cs i n G).toArray 51)).setRow w.heap.size (rowA cs i n G x).toArray).heap → ∀ ty dc sc, (Builtin.copy_ #[50, 50] ty #[.slice (some ⟨w.heap.size, i + 1, none⟩) (n - i) dc, .slice (some ⟨g, i, none⟩) (n - i) sc]).run Try.prog W = .ok (goInt (cs.drop i).length) (W.setRow w.heap.size (rowB cs i n G x).toArray) := fun W hW ty dc sc => by
    have hgW : W.heap[w.heap.size]? = some (.cells (rowA cs i n G x).toArray 51 (0, 0)) := by rw [hW]; exact setRow_heap _ _ _ _ 51 _ (heap_alloc_new w.drew _)
    have hold' : ∀ b, b < w.heap.size → W.heap[b]? = w.heap[b]? := fun b hb => by
      rw [hW, setRow_other _ _ _ _ (by omega)]
      exact Below.heap_alloc w.drew _ b hb
    have := run_copy_row (P := Try.prog) W 50 50 ty 51 w.heap.size (i + 1) (n - i) dc ⟨g, i, none⟩ (n - i) sc (rowA cs i n G x).toArray 51 (cs.drop i) Try.underlying50 hsz hgW (by rw [hdl]; simp only [Nat.min_def]; split <;> omega)
      (fun j v hj => by
        rw [Addr.add_mid, World.cell?_of_block (w := w) (hold' g hbw)]
        exact hcs (i + j) v (by rwa [List.getElem?_drop] at hj))
      (by have := rowA_len (x := x) hi hcl hGn; simp [this, hdl]; omega) (fun v hv => h1c v (List.mem_of_mem_drop hv))
    rw [this]
    simp [rowB, hdl]
  have hw1 : IntKind.i64.wrap ((i : Int) + 1) = (i : Int) + 1 := by rw [IntKind.wrap_i64]; omega
  have hb1 : (0 : Int) ≤ (i : Int) + 1 := by omega
  have hin : i ≤ n := by omega
  have htn : ((i : Int) + 1).toNat = i + 1 := by omega
  have hb3 : (i : Int) ≤ (n : Int) := by omega
  have hGi : ¬ (G = i) := by omega
  have hGim : ¬ (G = i + 1) := by omega
  have hci : ¬ (c = i) := by omega
  have hG63 : G ≤ 9223372036854775807 := by unfold maxLen at hGm; omega
  have hcpA' := hcpA (w.alloc (.cells (rowZ cs i n G).toArray 51)).drew rfl
  clear hkk hik hold hG hcpA
  go_enter Try.func30, Try.ntmps30
  go_wp2_with (first
    | (at_builtin; refine Lib.wpList_append_run _ rfl _ _ _ _ rfl _ _ rfl rfl _ _ (hrz _) ?_)
    | (simp only [hcpA']))
  go_region_law_o (refine step_copy_runI rfl (.tmp 50) (.tmp 53) 50 50 rfl (.slice (some ⟨w.heap.size, i + 1, none⟩) (n - i) (G - (i + 1))) (.slice (some ⟨g, i, none⟩) (n - i) (c - i)) (by simp [Act.eval, Act.put]) (by simp [Act.eval, Act.put]) (hcpB (((w.alloc (.cells (rowZ cs i n G).toArray 51)).drew.setRow w.heap.size (rowA cs i n G x).toArray).drew) rfl _ _ _) ?_)
  go_wp2
  go_ret
  refine ⟨G, hGn, hGm, rfl, ?_, ⟨rfl, rfl, rfl, ?_, fun k hk _ => ?_⟩⟩
  · exact setRow_heap _ _ _ _ 51 _ (show (((w.alloc (.cells (rowZ cs i n G).toArray 51)).drew.setRow w.heap.size (rowA cs i n G x).toArray).drew).heap[w.heap.size]? = _ from setRow_heap _ _ _ _ 51 _ (show ((w.alloc (.cells (rowZ cs i n G).toArray 51)).drew).heap[w.heap.size]? = _ from heap_alloc_new w _))
  · simp [World.setRow]
  · rw [setRow_other _ _ _ _ (by omega), show (((w.alloc (.cells (rowZ cs i n G).toArray 51)).drew.setRow w.heap.size (rowA cs i n G x).toArray).drew).heap[k]? = ((w.alloc (.cells (rowZ cs i n G).toArray 51)).drew.setRow w.heap.size (rowA cs i n G x).toArray).heap[k]? from rfl, setRow_other _ _ _ _ (by omega)]
    exact Below.heap_alloc w _ k hk

/-- slices.Insert of one value ahead of the end, on a row of the call's own. -/
theorem insert_own (B n i vb : Nat) (v x : Value) (xs : List Value) (w : World) (hi : i < n) (hn : n ≤ 4096) (hB : B ≤ w.heap.size) (hown : w.ownsRow B 51 1 v n xs) (hv : Lit vb x w) (hne : v.ownBlock ≠ some vb)
    (h1 : ∀ u ∈ xs, u.oneCell' = true) (hx : x.oneCell' = true) :
    Calls Try.prog 30 #[v, .int .i64 i, .slice (some ⟨vb, 0, none⟩) 1 1] w fun e w' => ∃ v', e = .returned v' ∧ w'.ownsRow B 51 1 v' (n + 1) (xs.take i ++ x :: xs.drop i) ∧ w.grownBy w' v.ownBlock := by
  have hxl : xs.length = n := by have := hown.1; omega
  have hlen : (xs.take i ++ x :: xs.drop i).length = (n + 1) * 1 := by simp; omega
  have hown' := hown
  rcases hown.2 with ⟨rfl, rfl⟩ | ⟨g, cap, cur, rfl, hb, hg, hc, hm, hs, ht⟩
  · omega
  · have hcs : cur.size = cap := by omega
    have htk : cur.toList.take n = xs := by simpa using ht
    have hne' : vb ≠ g := fun e => hne (by rw [e]; rfl)
    have hdt : (cur.toList.drop i).take (n - i) = xs.drop i := by rw [← htk, List.drop_take]
    by_cases hroom : n + 1 ≤ cap
    · refine (insert_room g n cap i vb cur.toList x w hi hroom (by unfold maxLen at hm; omega) (by simpa using hcs) hne' (by simpa using hg) hv (by rw [hdt]; exact fun u hu => h1 u (List.mem_of_mem_drop hu)) hx).mono ?_
      rintro e w' ⟨rfl, rfl⟩
      have hg1 := setRow_heap w.drew g cur (row1 cur.toList i n).toArray 51 (0, 0) hg
      have hg2 := setRow_heap (w.drew.setRow g (row1 cur.toList i n).toArray) g _ (row2 cur.toList i n x).toArray 51 (0, 0) hg1
      have hr2 := row2_eq (x := x) hi (show n + 1 ≤ cur.toList.length by simp; omega)
      refine ⟨_, rfl, ⟨hlen, .inr ⟨g, cap, _, rfl, hb, hg2, hroom, hm, ?_, ?_⟩⟩, ⟨rfl, rfl, rfl, by simp [World.setRow], fun k _ hk => ?_⟩⟩
      · rw [hr2]; simp; omega
      · rw [List.toList_toArray, hr2, hdt, Nat.mul_one, show cur.toList.take i = xs.take i by rw [← htk, List.take_take, Nat.min_eq_left (by omega)], ← List.cons_append, ← List.append_assoc]
        exact List.take_left' (by simpa using hlen)
      · have hk' : k ≠ g := fun e => hk (by rw [e]; rfl)
        rw [setRow_other _ _ _ _ hk', setRow_other _ _ _ _ hk']; rfl
    · refine (insert_grow g n cap i vb xs x w hi hc (by omega) hn hxl (fun j u hj => by have := hown'.cells (g := g) rfl j u hj; rwa [Addr.add_mid, Nat.zero_add] at this) hv h1 hx).mono ?_
      rintro e w' ⟨G, hG, hGm, rfl, hgw, hgr⟩
      refine ⟨_, rfl, ⟨hlen, .inr ⟨w.heap.size, G, _, rfl, hB, hgw, hG, hGm, ?_, ?_⟩⟩, ⟨hgr.os, hgr.tape, hgr.output, hgr.size, fun k hk _ => hgr.block k hk (by simp)⟩⟩
      · have := rowB_len (x := x) hi hxl hG; simp [this]
      · rw [List.toList_toArray, Nat.mul_one, rowB_take hi hxl hG]
end Go.Proofs.Qxb6608988a
