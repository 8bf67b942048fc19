/- slices.Insert where it shifts: in place, and into a new row. -/
import Derived.Test.YtilhgjcjofobeaaDoorZInsV
namespace Go.Proofs.YtilhgjcjofobeaaDoor
open Go.RowKit Go.Maps Go.Lib

theorem setCells_kept (g : Nat) : ∀ (vs : List Value) (o : Nat) (w : World), (w.setCells g o vs).os = w.os ∧ (w.setCells g o vs).tape = w.tape ∧ (w.setCells g o vs).output = w.output
  | [], _, _ => ⟨rfl, rfl, rfl⟩
  | v :: r, o, w => setCells_kept g r (o + 1) (w.setCell ⟨g, o, none⟩ v)
theorem isSome_setCells (b : Nat) (vs : List Value) (o : Nat) (w : World) (h : ∀ j, j < vs.length → (w.cell? ⟨b, o + j, none⟩).isSome = true) (k : Nat) (hk : (w.cell? ⟨b, k, none⟩).isSome = true) : ((w.setCells b o vs).cell? ⟨b, k, none⟩).isSome = true := by
  by_cases hin : o ≤ k ∧ k < o + vs.length
  · have := World.cell?_setCells_in b vs o w h (k - o) (by omega)
    rw [show o + (k - o) = k by omega] at this
    rw [this]; rfl
  · rw [World.cell?_setCells_out b vs o w ⟨b, k, none⟩ (fun _ _ => by show k < o ∨ o + vs.length ≤ k; omega)]
    exact hk
/-- The list with the key put in. -/
def insE (E : List (List UInt8 × Value)) (i : Nat) (k : List UInt8) : List (List UInt8 × Value) := E.take i ++ (k, .slice none 0 0) :: E.drop i
theorem insE_length (E : List (List UInt8 × Value)) (i : Nat) (k : List UInt8) (h : i ≤ E.length) : (insE E i k).length = E.length + 1 := by
  simp [insE]; omega
theorem cellsE_ins (E : List (List UInt8 × Value)) (i : Nat) (k : List UInt8) : cellsE (insE E i k) = cellsE (E.take i) ++ ([.string ⟨k.toArray⟩, .slice none 0 0] ++ cellsE (E.drop i)) := by
  simp [insE, cellsE]
/-- The row behind the two copies. -/
theorem laid_ins {cur : Array Value} {E : List (List UInt8 × Value)} {i : Nat} {k : List UInt8} (hi : i ≤ E.length) (hsz : (E.length + 1) * 2 ≤ cur.size) (ht : cur.toList.take (i * 2) = (cellsE E).take (i * 2)) :
    (laySet (laySet cur ((i + 1) * 2) (cellsE (E.drop i))) (i * 2) [.string ⟨k.toArray⟩, .slice none 0 0]).toList.take ((E.length + 1) * 2) = cellsE (insE E i k) := by
  have hdl : (cellsE (E.drop i)).length = (E.length - i) * 2 := by rw [cellsE_length, List.length_drop]
  have hs1 := laySet_size (cellsE (E.drop i)) cur ((i + 1) * 2)
  apply List.ext_getElem?
  intro t
  rw [List.getElem?_take]
  by_cases h1 : t < (E.length + 1) * 2
  · rw [if_pos h1, Array.getElem?_toList, laySet_get _ _ _ _ (by rw [hs1]; simp; omega), cellsE_ins, cellsE_take]
    by_cases h2 : t < i * 2
    · rw [if_pos h2, laySet_get _ _ _ _ (by rw [hdl]; omega), if_pos (by omega), List.getElem?_append_left (by rw [List.length_take, cellsE_length]; omega), ← ht, List.getElem?_take, if_pos h2]
      simp
    · rw [if_neg h2, List.getElem?_append_right (by rw [List.length_take, cellsE_length]; omega)]
      have hl : ((cellsE E).take (i * 2)).length = i * 2 := by rw [List.length_take, cellsE_length]; omega
      rw [hl]
      by_cases h3 : t < i * 2 + 2
      · rw [if_pos (by simpa using h3), List.getElem?_append_left (by simp; omega)]
      · rw [if_neg (by simpa using h3), laySet_get _ _ _ _ (by rw [hdl]; omega), if_neg (by omega), if_pos (by rw [hdl]; omega), List.getElem?_append_right (by simp; omega)]
        congr 1
        simp
        omega
  · rw [if_neg h1, List.getElem?_eq_none (by rw [cellsE_length, insE_length _ _ _ hi]; omega)]
set_option maxRecDepth 1000000 in
set_option maxHeartbeats 4000000 in
theorem insert_room {w : World} {base g cap vb i : Nat} {E : List (List UInt8 × Value)} {k : List UInt8} (hown : OE w base (.slice (some ⟨g, 0, none⟩) E.length cap) E) (hv : ∀ e ∈ E, ∃ A n c, e.2 = .slice A n c) (hB : Blk w vb #[.string ⟨k.toArray⟩, .slice none 0 0] 51) (hvb : vb ≠ g) (hi : i < E.length) (hroom : E.length + 1 ≤ cap) (hn : E.length ≤ 1000000) :
    Calls Tryd.prog 27 #[.slice (some ⟨g, 0, none⟩) E.length cap, .int .i64 i, .slice (some ⟨vb, 0, none⟩) 1 1] w (InsEnd base (.slice (some ⟨g, 0, none⟩) E.length cap) (insE E i k) w) := by
  obtain ⟨hl0, hx⟩ := hown
  rcases hx with ⟨hx, _⟩ | ⟨g', cap', cur, hx, hbg, hg, hnc, hm, hsz, ht⟩
  · cases hx
  simp only [Value.slice.injEq, Option.some.injEq, Addr.mk.injEq, and_true, true_and] at hx
  obtain ⟨rfl, rfl⟩ := hx
  have hm' : cap ≤ 9223372036854775807 := by unfold maxLen at hm; omega
  have hG : Blk w g cur 51 := hg
  obtain ⟨i0, hi0, hz0, hz1, hz2⟩ := info_parts Tryd.infoH
  have hsz2 : (Tryd.prog.info? 51).map (·.size) = some 2 := by rw [hi0]; simp [hz1]
  obtain ⟨X, hX⟩ : ∃ X, X = cellsE (E.drop i) := ⟨_, rfl⟩
  have hXl : X.length = (E.length - i) * 2 := by rw [hX, cellsE_length, List.length_drop]
  have hX1 : ∀ v ∈ X, v.oneCell' = true := by rw [hX]; exact cellsE_one _ (fun e he => hv e (List.mem_of_mem_drop he))
  have hcells : ∀ t, t < E.length * 2 → cur[t]? = (cellsE E)[t]? := fun t h => by rw [← ht, List.getElem?_take, if_pos h]; simp
  have hc1 : ∀ j, j < cur.size → (w.drew.cell? ⟨g, j, none⟩).isSome = true := fun j hj => by
    show (w.cell? _).isSome = true
    rw [hG.cell, Array.getElem?_eq_getElem hj]; rfl
  have hov : ∀ lb cb, (callFunc 39 #[.slice (some ⟨vb, 0, none⟩) 1 1, .slice (some ⟨g, (i + 1) * 2, none⟩) lb cb]).run Tryd.prog w = .ok (.value (.bool false)) w := fun lb cb => by
    rw [run_callFunc_extern Tryd.func39 (by kernel_rfl) (by kernel_rfl) (by kernel_rfl) (e := Extern.SlicesOverlaps.overlaps #[26, 26] #[4]) (by kernel_rfl),
      Lib.run_overlaps_apart w 26 4 51 Tryd.underlying26 2 Tryd.sizeOf51 ⟨vb, 0, none⟩ ⟨g, (i + 1) * 2, none⟩ 1 1 lb cb hvb _ _ _ _ hB.shape hG.shape (by omega) (hB.free _) (hB.free _)]
    rfl
  have hcp1 : ∀ ty dc sc, (Builtin.copy_ #[26, 26] ty #[.slice (some ⟨g, (i + 1) * 2, none⟩) (E.length - i) dc, .slice (some ⟨g, i * 2, none⟩) (E.length + 1 - i) sc]).run Tryd.prog w.drew = .ok (goInt ((E.length - i : Nat) : Int)) (w.drew.setCells g ((i + 1) * 2) X) := fun ty dc sc =>
    run_copy_two w.drew _ _ ty 51 g ((i + 1) * 2) (E.length - i) dc ⟨g, i * 2, none⟩ (E.length + 1 - i) sc (E.length - i) X Tryd.underlying26 hsz2 (by simp only [Nat.min_def]; split <;> omega) hXl
      (fun j v hj => by
        have hj2 : j < X.length := (List.getElem?_eq_some_iff.1 hj).1
        rw [Addr.add_lit]
        show w.cell? _ = _
        rw [hG.cell, hcells _ (by omega)]
        rw [hX, cellsE_drop, List.getElem?_drop] at hj
        exact hj)
      (fun j hj => hc1 _ (by omega)) (fun j hj => hG.free _) hX1
  obtain ⟨W1, hW1⟩ : ∃ W1, W1 = w.drew.setCells g ((i + 1) * 2) X := ⟨_, rfl⟩
  have hB1 : Blk W1 g (laySet cur ((i + 1) * 2) X) 51 := by rw [hW1]; exact Blk.setCells X _ hG
  have hV1 : Blk W1 vb #[.string ⟨k.toArray⟩, .slice none 0 0] 51 := hB.same (by rw [hW1, heap_setCells g _ _ _ vb hvb]; rfl)
  have hs1 := laySet_size X cur ((i + 1) * 2)
  have hcp2 : ∀ (W : World), (∀ x, W.cell? x = W1.cell? x) → (∀ x, W.frozen? x = W1.frozen? x) → ∀ ty dc, (Builtin.copy_ #[26, 26] ty #[.slice (some ⟨g, i * 2, none⟩) (E.length + 1 - i) dc, .slice (some ⟨vb, 0, none⟩) 1 1]).run Tryd.prog W = .ok (goInt ((1 : Nat) : Int)) (W.setCells g (i * 2) [.string ⟨k.toArray⟩, .slice none 0 0]) := fun W hWc hWf ty dc =>
    run_copy_two W _ _ ty 51 g (i * 2) (E.length + 1 - i) dc ⟨vb, 0, none⟩ 1 1 1 [.string ⟨k.toArray⟩, .slice none 0 0] Tryd.underlying26 hsz2 (by simp only [Nat.min_def]; split <;> omega) rfl
      (fun j v hj => by
        rw [Addr.add_lit, hWc, Nat.zero_add, hV1.cell]
        rcases j with _ | _ | j
        · exact hj
        · exact hj
        · simp at hj)
      (fun j hj => by rw [hWc, hB1.cell, Array.getElem?_eq_getElem (by rw [hs1]; simp at hj; omega)]; rfl) (fun j hj => by rw [hWf]; exact hB1.free _) (by intro v hv; simp at hv; rcases hv with rfl | rfl <;> rfl)
  rw [← hW1] at hcp1
  have hw1 : IntKind.i64.wrap ((i : Int) + 1) = (i : Int) + 1 := by rw [IntKind.wrap_i64]; omega
  have hw2 : IntKind.i64.wrap ((E.length : Int) + 1) = (E.length : Int) + 1 := by rw [IntKind.wrap_i64]; omega
  have hz2 : ((i : Int) == (E.length : Int)) = false := by rw [beq_eq_false_iff_ne]; omega
  have hb0 : (i : Int) ≤ (E.length : Int) := by omega
  have hb1 : ¬ (cap : Int) < (E.length : Int) + 1 := by omega
  have hb2 : (E.length : Int) + 1 ≤ (cap : Int) := by omega
  have hb3 : (i : Int) ≤ (E.length : Int) + 1 := by omega
  have hb4 : ¬ (cap = i) := by omega
  have hb5 : ¬ (cap = i + 1) := by omega
  have hb6 : (0 : Int) ≤ (i : Int) + 1 := by omega
  have hb7 : (E.length : Int) ≤ (cap : Int) := by omega
  have hfin : ∀ e, e = .returned (.slice (some ⟨g, 0, none⟩) (E.length + 1) cap) → InsEnd base (.slice (some ⟨g, 0, none⟩) E.length cap) (insE E i k) w e (W1.setCells g (i * 2) [.string ⟨k.toArray⟩, .slice none 0 0]) := by
    rintro e rfl
    have hil := insE_length E i k (by omega)
    refine ⟨some ⟨g, 0, none⟩, cap, by rw [hil], ?_, ?_, .inl rfl⟩
    · rw [hil]
      refine ⟨by rw [cellsE_length], .inr ⟨g, cap, _, by rw [hil], hbg, Blk.setCells _ _ hB1, by rw [hil]; exact hroom, hm, by rw [laySet_size, hs1, hsz], ?_⟩⟩
      rw [hil, hX]
      exact laid_ins (by omega) (by rw [hsz]; omega) (by rw [← ht, List.take_take, Nat.min_eq_left (by omega)])
    · have := (setCells_kept g [Value.string ⟨k.toArray⟩, .slice none 0 0] (i * 2) W1)
      have h2 := (setCells_kept g X ((i + 1) * 2) w.drew)
      rw [← hW1] at h2
      refine ⟨this.1.trans h2.1, this.2.1.trans h2.2.1, this.2.2.trans h2.2.2, by rw [size_setCells, hW1, size_setCells]; exact Nat.le_refl _, fun j hj hne => ?_⟩
      have hjg : j ≠ g := fun e => hne (by rw [e]; rfl)
      rw [heap_setCells g _ _ _ _ hjg, hW1, heap_setCells g _ _ _ _ hjg]
      rfl
  have HF := Lib.hid hfin
  clear hfin hG hg ht hcells hc1 hX hXl hX1 hB1 hV1 hs1 hsz hB hl0 hv hbg
  go_enter Tryd.func27, Tryd.ntmps27
  go_wp2_with (simp only [hov])
  go_region_law (refine step_copy_r rfl _ _ 26 26 rfl _ _ (by simp [Act.eval, Act.put]) (by simp [Act.eval, Act.put]) (hcp1 _ _ _) ?_)
  go_wp2_with ((with_reducible refine at_copyH ?_); refine wpList_copy_r rfl _ _ 26 26 rfl _ _ rfl rfl (hcp2 _ (fun _ => rfl) (fun _ => rfl) _ _) ?_)
  go_ret
  rw [← hW1]
  exact HF.out _ rfl
theorem Only.setCell {w w' : World} (h : Only w w') (a : Addr) (v : Value) : Only (w.setCell a v) (w'.setCell a v) := by
  obtain ⟨h1, h2, h3, h4⟩ := h
  refine ⟨?_, ?_, ?_, ?_⟩ <;> (unfold World.setCell; simp [*])
theorem Only.setCells (g : Nat) : ∀ (vs : List Value) (o : Nat) {w w' : World}, Only w w' → Only (w.setCells g o vs) (w'.setCells g o vs)
  | [], _, _, _, h => h
  | v :: r, o, _, _, h => Only.setCells g r (o + 1) (h.setCell ⟨g, o, none⟩ v)
theorem Only.cellAt {w w' : World} (h : Only w w') (x : Addr) : w'.cell? x = w.cell? x := World.cell?_of_block (h.at_ _)
theorem Only.frozenAt {w w' : World} (h : Only w w') (x : Addr) : w'.frozen? x = w.frozen? x := World.frozen?_of_block (h.at_ _)
theorem laid_grow {E : List (List UInt8 × Value)} {i : Nat} {k : List UInt8} (hi : i ≤ E.length) {ROW : Array Value} (hR : ROW.toList.take (i * 2) = cellsE (E.take i)) (hsz : (E.length + 1) * 2 ≤ ROW.size) :
    (laySet (laySet ROW (i * 2) [.string ⟨k.toArray⟩, .slice none 0 0]) ((i + 1) * 2) (cellsE (E.drop i))).toList.take ((E.length + 1) * 2) = cellsE (insE E i k) := by
  have hdl : (cellsE (E.drop i)).length = (E.length - i) * 2 := by rw [cellsE_length, List.length_drop]
  have hs1 := laySet_size [Value.string ⟨k.toArray⟩, .slice none 0 0] ROW (i * 2)
  have htl : (cellsE (E.take i)).length = i * 2 := by rw [cellsE_length, List.length_take]; omega
  apply List.ext_getElem?
  intro t
  rw [List.getElem?_take]
  by_cases h1 : t < (E.length + 1) * 2
  · rw [if_pos h1, Array.getElem?_toList, laySet_get _ _ _ _ (by rw [hs1, hdl]; omega), cellsE_ins]
    by_cases h2 : t < (i + 1) * 2
    · rw [if_pos h2, laySet_get _ _ _ _ (by simp; omega)]
      by_cases h3 : t < i * 2
      · rw [if_pos h3, List.getElem?_append_left (by rw [htl]; exact h3), ← hR, List.getElem?_take, if_pos h3]
        simp
      · rw [if_neg h3, if_pos (by simp; omega), List.getElem?_append_right (by rw [htl]; omega), htl, List.getElem?_append_left (by simp; omega)]
    · rw [if_neg h2, if_pos (by rw [hdl]; omega), List.getElem?_append_right (by rw [htl]; omega), htl, List.getElem?_append_right (by simp; omega)]
      congr 1
      simp
      omega
  · rw [if_neg h1, List.getElem?_eq_none (by rw [cellsE_length, insE_length _ _ _ hi]; omega)]
set_option maxRecDepth 1000000 in
set_option maxHeartbeats 4000000 in
theorem insert_grow {w : World} {base g cap vb i : Nat} {E : List (List UInt8 × Value)} {k : List UInt8} (hown : OE w base (.slice (some ⟨g, 0, none⟩) E.length cap) E) (hv : ∀ e ∈ E, ∃ A n c, e.2 = .slice A n c) (hB : Blk w vb #[.string ⟨k.toArray⟩, .slice none 0 0] 51) (hi : i < E.length) (hroom : cap < E.length + 1) (hn : E.length ≤ 1000000) (hbase : base ≤ w.heap.size) :
    Calls Tryd.prog 27 #[.slice (some ⟨g, 0, none⟩) E.length cap, .int .i64 i, .slice (some ⟨vb, 0, none⟩) 1 1] w (InsEnd base (.slice (some ⟨g, 0, none⟩) E.length cap) (insE E i k) w) := by
  obtain ⟨hl0, hx⟩ := hown
  rcases hx with ⟨hx, _⟩ | ⟨g', cap', cur, hx, hbg, hg, hnc, hm, hsz, ht⟩
  · cases hx
  simp only [Value.slice.injEq, Option.some.injEq, Addr.mk.injEq, and_true, true_and] at hx
  obtain ⟨rfl, rfl⟩ := hx
  obtain rfl : cap = E.length := by omega
  have hG : Blk w g cur 51 := hg
  obtain ⟨i0, hi0, hz0, hz1, hz2⟩ := info_parts Tryd.infoH
  have hsz2 : (Tryd.prog.info? 51).map (·.size) = some 2 := by rw [hi0]; simp [hz1]
  obtain ⟨X, hX⟩ : ∃ X, X = cellsE (E.drop i) := ⟨_, rfl⟩
  have hXl : X.length = (E.length - i) * 2 := by rw [hX, cellsE_length, List.length_drop]
  have hX1 : ∀ v ∈ X, v.oneCell' = true := by rw [hX]; exact cellsE_one _ (fun e he => hv e (List.mem_of_mem_drop he))
  have hcells : ∀ t, t < E.length * 2 → cur[t]? = (cellsE E)[t]? := fun t h => by rw [← ht, List.getElem?_take, if_pos h]; simp
  have hold : (Builtin.firstCells i0.size i (.slice (some ⟨g, 0, none⟩) i E.length)).run Tryd.prog w.drew = .ok (cellsE (E.take i)).toArray w.drew := by
    rw [hz1]
    exact run_firstCells_some w.drew 2 i ⟨g, 0, none⟩ i E.length (cellsE (E.take i)) (by rw [cellsE_length, List.length_take]; omega) (fun j v hj => by
      rw [Addr.add_lit]
      have hj2 : j < i * 2 := by have := (List.getElem?_eq_some_iff.1 hj).1; rw [cellsE_length, List.length_take] at this; omega
      rw [cellsE_take, List.getElem?_take, if_pos hj2] at hj
      show w.cell? _ = _
      rw [Nat.zero_add, hG.cell, hcells _ (by omega)]
      exact hj)
  obtain ⟨NB, hNB⟩ : ∃ NB, NB = w.heap.size := ⟨_, rfl⟩
  have hik : i + (E.length + 1 - i) = E.length + 1 := by omega
  have hkk : (E.length : Int) + 1 - (i : Int) = ((E.length + 1 - i : Nat) : Int) := by omega
  obtain ⟨G, hGe⟩ : ∃ G, G = grownCap w (E.length + 1) E.length 51 := ⟨_, rfl⟩
  obtain ⟨ROW, hROW⟩ : ∃ ROW : Array Value, ROW = (cellsE (E.take i)).toArray ++ Builtin.zeroCells (Value.agg #[.string ⟨#[]⟩, .slice none 0 0]).cells (E.length + 1 - i) ++ Builtin.zeroCells (Value.agg #[.string ⟨#[]⟩, .slice none 0 0]).cells (G - (E.length + 1)) := ⟨_, rfl⟩
  obtain ⟨W1, hW1⟩ : ∃ W1, W1 = w.drew.alloc (.cells ROW 51) := ⟨_, rfl⟩
  have hrz : ∀ ty, (Builtin.append_ #[26, 3] ty #[.slice (some ⟨g, 0, none⟩) i E.length, .int .i64 ((E.length : Int) + 1 - (i : Int))]).run Tryd.prog w = .ok (.slice (some ⟨NB, 0, none⟩) (E.length + 1) G) W1 := fun ty => by
    have h := run_append_grow_zeros w 26 3 ty 51 i0 _ .i64 .i64 Tryd.underlying26 Tryd.underlying3 hi0 hz0 (some ⟨g, 0, none⟩) i E.length (cellsE (E.take i)) hold (E.length + 1 - i) (by omega) (by omega) (by omega) (by omega) (by rw [hz2]; omega) (by rw [hz2, hik]; exact growslice_fits (by omega) (by omega))
    rw [hik, ← hGe, ← hROW, ← hW1, ← hNB] at h
    rw [hkk]
    exact h
  have hGn : E.length + 1 ≤ G := by rw [hGe]; exact grownCap_ge w _ _ _
  have hGm : G ≤ maxLen := by rw [hGe]; exact grownCap_le_maxLen w _ _ _ (by unfold maxLen; omega)
  have hRsz : ROW.size = G * 2 := by
    rw [hROW]
    simp [Builtin.zeroCells, Value.cells, cellsE_length]
    omega
  have hRt : ROW.toList.take (i * 2) = cellsE (E.take i) := by
    rw [hROW, Array.toList_append, Array.toList_append, List.append_assoc, List.take_append_of_le_length (by simp [cellsE_length]; omega)]
    rw [List.take_of_length_le (by simp [cellsE_length]; omega)]
  have hNw : NB ≠ g := by rw [hNB]; exact fun e => by have := hG.lt; omega
  have hNv : NB ≠ vb := by rw [hNB]; exact fun e => by have := hB.lt; omega
  have hN1 : Blk W1 NB ROW 51 := by rw [hW1, hNB]; exact heap_alloc_new w.drew _
  have hG1 : Blk W1 g cur 51 := by rw [hW1]; exact hG.same (heap_alloc_old w.drew _ hG.lt)
  have hV1 : Blk W1 vb #[.string ⟨k.toArray⟩, .slice none 0 0] 51 := by rw [hW1]; exact hB.same (heap_alloc_old w.drew _ hB.lt)
  have hcpA : ∀ (W : World), Only W1 W → ∀ ty dc, (Builtin.copy_ #[26, 26] ty #[.slice (some ⟨NB, i * 2, none⟩) (E.length + 1 - i) dc, .slice (some ⟨vb, 0, none⟩) 1 1]).run Tryd.prog W = .ok (goInt ((1 : Nat) : Int)) (W.setCells NB (i * 2) [.string ⟨k.toArray⟩, .slice none 0 0]) := fun W hW ty dc =>
    run_copy_two W _ _ ty 51 NB (i * 2) (E.length + 1 - i) dc ⟨vb, 0, none⟩ 1 1 1 [.string ⟨k.toArray⟩, .slice none 0 0] Tryd.underlying26 hsz2 (by simp only [Nat.min_def]; split <;> omega) rfl
      (fun j v hj => by
        rw [Addr.add_lit, hW.cellAt, Nat.zero_add, hV1.cell]
        rcases j with _ | _ | j
        · exact hj
        · exact hj
        · simp at hj)
      (fun j hj => by rw [hW.cellAt, hN1.cell, Array.getElem?_eq_getElem (by rw [hRsz]; simp at hj; omega)]; rfl) (fun j hj => by rw [hW.frozenAt]; exact hN1.free _) (by intro v hv; simp at hv; rcases hv with rfl | rfl <;> rfl)
  obtain ⟨W2, hW2⟩ : ∃ W2, W2 = W1.setCells NB (i * 2) [.string ⟨k.toArray⟩, .slice none 0 0] := ⟨_, rfl⟩
  have hN2 : Blk W2 NB (laySet ROW (i * 2) [.string ⟨k.toArray⟩, .slice none 0 0]) 51 := by rw [hW2]; exact Blk.setCells _ _ hN1
  have hG2 : Blk W2 g cur 51 := hG1.same (by rw [hW2, heap_setCells NB _ _ _ g (fun e => hNw e.symm)])
  have hs2 := laySet_size [Value.string ⟨k.toArray⟩, .slice none 0 0] ROW (i * 2)
  have hcpB : ∀ (W : World), Only W2 W → ∀ ty dc sc, (Builtin.copy_ #[26, 26] ty #[.slice (some ⟨NB, (i + 1) * 2, none⟩) (E.length - i) dc, .slice (some ⟨g, i * 2, none⟩) (E.length - i) sc]).run Tryd.prog W = .ok (goInt ((E.length - i : Nat) : Int)) (W.setCells NB ((i + 1) * 2) X) := fun W hW ty dc sc =>
    run_copy_two W _ _ ty 51 NB ((i + 1) * 2) (E.length - i) dc ⟨g, i * 2, none⟩ (E.length - i) sc (E.length - i) X Tryd.underlying26 hsz2 (by simp) hXl
      (fun j v hj => by
        have hj2 : j < X.length := (List.getElem?_eq_some_iff.1 hj).1
        rw [Addr.add_lit, hW.cellAt, hG2.cell, hcells _ (by omega)]
        rw [hX, cellsE_drop, List.getElem?_drop] at hj
        exact hj)
      (fun j hj => by rw [hW.cellAt, hN2.cell, Array.getElem?_eq_getElem (by rw [hs2, hRsz]; omega)]; rfl) (fun j hj => by rw [hW.frozenAt]; exact hN2.free _) hX1
  have hw1 : IntKind.i64.wrap ((i : Int) + 1) = (i : Int) + 1 := by rw [IntKind.wrap_i64]; omega
  have hw2 : IntKind.i64.wrap ((E.length : Int) + 1) = (E.length : Int) + 1 := by rw [IntKind.wrap_i64]; omega
  have hw3 : IntKind.i64.wrap ((E.length : Int) + 1 - (i : Int)) = (E.length : Int) + 1 - (i : Int) := by rw [IntKind.wrap_i64]; omega
  have hz2' : ((i : Int) == (E.length : Int)) = false := by rw [beq_eq_false_iff_ne]; omega
  have hb0 : (i : Int) ≤ (E.length : Int) := by omega
  have hb1 : (E.length : Int) < (E.length : Int) + 1 := by omega
  have hb3 : (i : Int) ≤ (E.length : Int) + 1 := by omega
  have hb4 : ¬ (E.length = i) := by omega
  have hb5 : ¬ (G = i) := by omega
  have hb6 : ¬ (G = i + 1) := by omega
  have hb7 : (0 : Int) ≤ (i : Int) + 1 := by omega
  have hb8 : (i : Int) ≤ (G : Int) := by omega
  have hb9 : (E.length : Int) + 1 ≤ (G : Int) := by omega
  have hGm2 : G ≤ 9223372036854775807 := by unfold maxLen at hGm; omega
  have hfin : ∀ e wf, e = .returned (.slice (some ⟨NB, 0, none⟩) (E.length + 1) G) → Only (W2.setCells NB ((i + 1) * 2) X) wf → InsEnd base (.slice (some ⟨g, 0, none⟩) E.length E.length) (insE E i k) w e wf := by
    rintro e wf rfl ho
    have hil := insE_length E i k (by omega)
    refine ⟨some ⟨NB, 0, none⟩, G, by rw [hil], ?_, ?_, .inr ⟨NB, rfl, by rw [hNB]; exact Nat.le_refl _⟩⟩
    · rw [hil]
      refine ⟨by rw [cellsE_length], .inr ⟨NB, G, _, by rw [hil], by rw [hNB]; exact hbase, (Blk.setCells X _ hN2).same (ho.at_ NB), by rw [hil]; exact hGn, hGm, by rw [laySet_size, hs2, hRsz], ?_⟩⟩
      rw [hil, hX]
      exact laid_grow (by omega) hRt (by rw [hRsz]; omega)
    · have h1 := (setCells_kept NB [Value.string ⟨k.toArray⟩, .slice none 0 0] (i * 2) W1)
      have h2 := (setCells_kept NB X ((i + 1) * 2) W2)
      rw [← hW2] at h1
      have e1 : W1.os = w.os ∧ W1.tape = w.tape ∧ W1.output = w.output := by rw [hW1]; exact ⟨rfl, rfl, rfl⟩
      have hs1 : W1.heap.size = w.heap.size + 1 := by rw [hW1, World.size_alloc]; rfl
      refine ⟨ho.os.trans (h2.1.trans (h1.1.trans e1.1)), ho.tape.trans (h2.2.1.trans (h1.2.1.trans e1.2.1)), ho.output.trans (h2.2.2.trans (h1.2.2.trans e1.2.2)), by rw [ho.heap, size_setCells, hW2, size_setCells]; omega, fun j hj hne => ?_⟩
      have hjg : j ≠ NB := fun e => by omega
      rw [ho.heap, heap_setCells NB _ _ _ _ hjg, hW2, heap_setCells NB _ _ _ _ hjg, hW1]
      exact heap_alloc_old w.drew _ hj
  have HF := Lib.hid hfin
  have HC := Lib.hid (And.intro hrz (And.intro hcpA hcpB))
  have HW := Lib.hid (And.intro hW1 hW2)
  clear hfin hrz hcpA hcpB hW1 hW2 hG hg ht hcells hX hXl hX1 hN1 hG1 hV1 hN2 hG2 hs2 hsz hB hl0 hv hbg hROW hRsz hRt hGe hGn hGm hik hkk hNw hNv hold hz0 hz1 hz2 hsz2 hi0 hNB
  have hD : Only W2 ((W1.setCells NB (i * 2) [.string ⟨k.toArray⟩, .slice none 0 0]).drew) := by rw [HW.out.2]; exact (Only.refl _).drew
  have HD := Lib.hid hD
  clear hD
  go_enter Tryd.func27, Tryd.ntmps27
  go_wp2_with (first
    | ((with_reducible refine at_appendZ ?_); refine Lib.wpList_append_run _ rfl _ _ _ _ rfl _ _ rfl rfl _ _ (HC.out.1 _) ?_)
    | ((with_reducible refine at_copyH ?_); refine wpList_copy_r rfl _ _ 26 26 rfl _ _ rfl rfl (HC.out.2.1 _ (Only.refl _) _ _) ?_))
  go_region_law (refine step_copy_r rfl _ _ 26 26 rfl (.slice (some ⟨NB, (i + 1) * 2, none⟩) (E.length - i) (G - (i + 1))) (.slice (some ⟨g, i * 2, none⟩) (E.length - i) (E.length - i)) (by simp [Act.eval, Act.put]) (by simp [Act.eval, Act.put]) (HC.out.2.2 _ HD.out 3 (G - (i + 1)) (E.length - i)) ?_)
  go_wp2
  go_ret
  refine HF.out _ _ rfl ?_
  rw [HW.out.2]
  exact Only.setCells _ _ _ ((Only.refl _).drew)
theorem insert_any {w : World} {base cap vb i : Nat} {A : Option Addr} {E : List (List UInt8 × Value)} {k : List UInt8} (hown : OE w base (.slice A E.length cap) E) (hv : ∀ e ∈ E, ∃ A n c, e.2 = .slice A n c) (hB : Blk w vb #[.string ⟨k.toArray⟩, .slice none 0 0] 51) (hvb : (Value.slice A E.length cap).ownBlock ≠ some vb) (hi : i ≤ E.length) (hn : E.length ≤ 1000000) (hbase : base ≤ w.heap.size) :
    Calls Tryd.prog 27 #[.slice A E.length cap, .int .i64 i, .slice (some ⟨vb, 0, none⟩) 1 1] w (InsEnd base (.slice A E.length cap) (insE E i k) w) := by
  by_cases he : i = E.length
  · subst he
    have e1 : insE E E.length k = E ++ [(k, .slice none 0 0)] := by simp [insE]
    rw [e1]
    exact insert_end hown hB hn hbase
  · obtain ⟨A0, c0, e0, hle, _, hkr, _⟩ := hown.form
    injection e0 with ea _ ec
    subst ea
    subst ec
    obtain ⟨g, rfl, _⟩ := hkr (by rintro rfl; simp at hi; simp at he; omega)
    by_cases hr : E.length + 1 ≤ cap
    · exact insert_room hown hv hB (fun e => hvb (by rw [e]; rfl)) (by omega) hr hn
    · exact insert_grow hown hv hB (by omega) (by omega) hn hbase
end Go.Proofs.YtilhgjcjofobeaaDoor
