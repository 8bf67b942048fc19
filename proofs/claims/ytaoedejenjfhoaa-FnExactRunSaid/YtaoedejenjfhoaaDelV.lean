/- slices.Delete of one key with its values. -/
import Derived.Test.YtaoedejenjfhoaaBlks
namespace Go.Proofs.Ytaoedejenjfhoaa
open Go.RowKit Go.Maps

theorem Try.infoH : (Try.prog.info? 45).map (fun i => (i.zero, i.size, i.bytes)) = some (some (.agg #[.string ⟨#[]⟩, .slice none 0 0]), 2, 40) := by kernel_rfl
/-- An owned list of keys with their values. -/
def OE (w : World) (base : Nat) (v : Value) (E : List (List UInt8 × Value)) : Prop := w.ownsRow base 45 2 v E.length (cellsE E)
theorem cellsE_one (E : List (List UInt8 × Value)) (hv : ∀ e ∈ E, ∃ A n c, e.2 = .slice A n c) : ∀ u ∈ cellsE E, u.oneCell' = true := by
  intro u hu
  simp only [cellsE, List.mem_flatMap] at hu
  obtain ⟨e, he, hu⟩ := hu
  obtain ⟨A, n, c, h⟩ := hv e he
  simp only [List.mem_cons, List.not_mem_nil, or_false] at hu
  rcases hu with rfl | rfl
  · rfl
  · rw [h]; rfl
theorem cellsE_erase (E : List (List UInt8 × Value)) (i : Nat) : cellsE (E.eraseIdx i) = cellsE (E.take i) ++ cellsE (E.drop (i + 1)) := by
  rw [List.eraseIdx_eq_take_drop_succ, cellsE_append]
theorem cellsE_take (E : List (List UInt8 × Value)) (i : Nat) : cellsE (E.take i) = (cellsE E).take (i * 2) := by
  induction E generalizing i with
  | nil => simp [cellsE]
  | cons e t ih =>
    rcases i with _ | i
    · simp [cellsE]
    · have h := ih i
      have hc : cellsE (e :: t) = .string ⟨e.1.toArray⟩ :: e.2 :: cellsE t := by simp [cellsE]
      have hc2 : cellsE (e :: t.take i) = .string ⟨e.1.toArray⟩ :: e.2 :: cellsE (t.take i) := by simp [cellsE]
      rw [List.take_succ_cons, hc, hc2, h, show (i + 1) * 2 = i * 2 + 1 + 1 by omega]
      simp
theorem cellsE_drop (E : List (List UInt8 × Value)) (i : Nat) : cellsE (E.drop i) = (cellsE E).drop (i * 2) := by
  induction E generalizing i with
  | nil => simp [cellsE]
  | cons e t ih =>
    rcases i with _ | i
    · simp
    · have h := ih i
      have hc : cellsE (e :: t) = .string ⟨e.1.toArray⟩ :: e.2 :: cellsE t := by simp [cellsE]
      rw [List.drop_succ_cons, hc, h, show (i + 1) * 2 = i * 2 + 1 + 1 by omega]
      simp
theorem setCells_kept (g : Nat) : ∀ (vs : List Value) (o : Nat) (w : World), (w.setCells g o vs).os = w.os ∧ (w.setCells g o vs).tape = w.tape ∧ (w.setCells g o vs).output = w.output
  | [], _, _ => ⟨rfl, rfl, rfl⟩
  | v :: r, o, w => setCells_kept g r (o + 1) (w.setCell ⟨g, o, none⟩ v)
theorem run_clear_H (w : World) (ty : TypeId) (g o c : Nat) (h0 : (w.cell? ⟨g, o, none⟩).isSome = true) (h1 : (w.cell? ⟨g, o + 1, none⟩).isSome = true) (f0 : w.frozen? ⟨g, o, none⟩ = false) (f1 : w.frozen? ⟨g, o + 1, none⟩ = false) :
    (Builtin.clear_ #[43] ty #[.slice (some ⟨g, o, none⟩) 1 c]).run Try.prog w = .ok (.tuple #[]) (w.setCells g o [.string ⟨#[]⟩, .slice none 0 0]) := by
  have hst := run_storeCells_cells (P := Try.prog) g o [.string ⟨#[]⟩, .slice none 0 0] 0 w (by
    intro j hj
    rcases j with _ | _ | j
    · exact h0
    · exact h1
    · simp at hj; omega) (by
    intro j hj
    rcases j with _ | _ | j
    · exact f0
    · exact f1
    · simp at hj; omega) (by intro v hv; simp at hv; rcases hv with rfl | rfl <;> rfl)
  have hz : ∀ w, (zeroValue 45).run Try.prog w = .ok (.agg #[.string ⟨#[]⟩, .slice none 0 0]) w := fun w => by kernel_rfl
  simp only [Nat.add_zero] at hst
  simp [Builtin.clear_, run_underlying Try.underlying43, hz, Builtin.zeroCells, Value.cells]
  have hr : (List.range 2).map (fun i => [Value.string ⟨#[]⟩, Value.slice none 0 0][i % 2]?.getD default) = [Value.string ⟨#[]⟩, Value.slice none 0 0] := rfl
  rw [hr, hst]
  rfl
set_option maxHeartbeats 4000000 in
set_option maxRecDepth 1000000 in
theorem delete_any {w : World} {base g cap : Nat} {E : List (List UInt8 × Value)} (hown : OE w base (.slice (some ⟨g, 0, none⟩) E.length cap) E) (hv : ∀ e ∈ E, ∃ A n c, e.2 = .slice A n c) (i : Nat) (hi : i < E.length) :
    Calls Try.prog 37 #[.slice (some ⟨g, 0, none⟩) E.length cap, .int .i64 i, .int .i64 (i + 1 : Nat)] w fun e w' => e = .returned (.slice (some ⟨g, 0, none⟩) (E.length - 1) cap) ∧ OE w' base (.slice (some ⟨g, 0, none⟩) (E.length - 1) cap) (E.eraseIdx i) ∧ w.grownBy w' (some g) := by
  obtain ⟨i0, hi0, hz0, hz1, hz2⟩ := info_parts Try.infoH
  obtain ⟨hlen0, hx⟩ := hown
  rcases hx with ⟨h, _⟩ | ⟨g', cap', cur, h, hbg, hg, hn, hm, hs, ht⟩
  · cases h
  · simp only [Value.slice.injEq, Option.some.injEq, Addr.mk.injEq, and_true, true_and] at h
    obtain ⟨rfl, rfl⟩ := h
    unfold maxLen at hm
    have hB : Blk w g cur 45 := hg
    have hcells : ∀ t, t < E.length * 2 → cur[t]? = (cellsE E)[t]? := fun t h => by rw [← ht, List.getElem?_take, if_pos h]; simp
    obtain ⟨news, hnews⟩ : ∃ news, news = cellsE (E.drop (i + 1)) := ⟨_, rfl⟩
    have hlen : news.length = (E.length - (i + 1)) * 2 := by rw [hnews, cellsE_length, List.length_drop]
    obtain ⟨A, hA, hsrc⟩ : ∃ A : Addr, (if cap = i + 1 then some (⟨g, 0, none⟩ : Addr) else some ⟨g, (i + 1) * 2, none⟩) = some A ∧ Hid (∀ t u, news[t]? = some u → w.drew.cell? (A.add t) = some u) := by
      by_cases h : cap = i + 1
      · refine ⟨⟨g, 0, none⟩, by simp [h], fun t u hu => ?_⟩
        have h0 : news.length = 0 := by rw [hlen]; omega
        rw [List.length_eq_zero_iff.1 h0] at hu
        simp at hu
      · refine ⟨⟨g, (i + 1) * 2, none⟩, by simp [h], fun t u hu => ?_⟩
        have ht' : t < news.length := (List.getElem?_eq_some_iff.1 hu).1
        rw [hlen] at ht'
        rw [Addr.add_lit]
        show w.cell? _ = _
        rw [hB.cell, hcells _ (by omega)]
        rw [hnews, cellsE_drop, List.getElem?_drop] at hu
        exact hu
    have s1 : Hid (news.length = (E.length - (i + 1)) * 2) := hlen
    have s2 : Hid (∀ u ∈ news, u.oneCell' = true) := by rw [hnews]; exact cellsE_one _ (fun e he => hv e (List.mem_of_mem_drop he))
    have s3 : Hid (∀ t, t < news.length → (w.drew.cell? ⟨g, 0 + i * 2 + t, none⟩).isSome = true ∧ w.drew.frozen? ⟨g, 0 + i * 2 + t, none⟩ = false) := by
      intro t ht'
      rw [hlen] at ht'
      refine ⟨?_, hB.free _⟩
      show (w.cell? _).isSome = true
      rw [hB.cell, Array.getElem?_eq_getElem (by omega)]; rfl
    obtain ⟨W1, hW1⟩ : ∃ W1, W1 = w.drew.setCells g (0 + i * 2) news := ⟨_, rfl⟩
    have hB1 : Blk W1 g (laySet cur (0 + i * 2) news) 45 := by rw [hW1]; exact Blk.setCells news _ hB
    have hsz1 := laySet_size news cur (0 + i * 2)
    have hcl : ∀ ty, (Builtin.clear_ #[43] ty #[.slice (some ⟨g, (i + (E.length - (i + 1))) * 2, none⟩) (E.length - (i + (E.length - (i + 1)))) (cap - (i + (E.length - (i + 1))))]).run Try.prog W1 = .ok (.tuple #[]) (W1.setCells g ((i + (E.length - (i + 1))) * 2) [.string ⟨#[]⟩, .slice none 0 0]) := fun ty => by
      rw [show E.length - (i + (E.length - (i + 1))) = 1 by omega]
      exact run_clear_H W1 ty g _ _ (by rw [hB1.cell, Array.getElem?_eq_getElem (by rw [hsz1]; omega)]; rfl) (by rw [hB1.cell, Array.getElem?_eq_getElem (by rw [hsz1]; omega)]; rfl) (hB1.free _) (hB1.free _)
    have hic : i ≤ cap := by omega
    have hjc : i + 1 ≤ cap := by omega
    have hcap : cap ≤ 9223372036854775807 := hm
    have hW : Hid (W1 = w.drew.setCells g (0 + i * 2) news) := hW1
    have H := Lib.hid (And.intro hB (And.intro hB1 (And.intro hsz1 (And.intro hs (And.intro ht (And.intro hnews (And.intro hlen (And.intro hbg hlen0))))))))
    have HN := Lib.hid hn
    clear hB hB1 hsz1 hs ht hnews hlen hbg hW1 hg hcells hm hv hlen0
    go_enter Try.func37, Try.ntmps37
    go_wp2_with fail
    have b1 : (0 : Int) ≤ (i : Int) + 1 := by omega
    have b2 : (i : Int) + 1 ≤ (E.length : Int) := by omega
    go_region_law (refine step_append_room rfl (.tmp 22) (.tmp 25) 43 rfl 45 i0 2 Try.underlying43 hi0 hz1 g 0 i cap (by simp [Act.eval, Act.put]) A (E.length - (i + 1)) (cap - (i + 1)) news (by simp [Act.eval, Act.put]) s1.out hsrc.out s2.out (by omega) s3.out ?_; rw [← hW.out])
    go_wp2
    go_ret
    obtain ⟨hB, hB1, hsz1, hs, ht, hnews, hlen, hbg, hlen0⟩ := H.out
    have hn2 : i + (E.length - (i + 1)) = E.length - 1 := by omega
    have hel : (E.eraseIdx i).length = E.length - 1 := by rw [List.length_eraseIdx, if_pos hi]
    rw [hn2]
    refine ⟨rfl, ?_, ?_⟩
    · unfold OE
      rw [hel]
      refine ⟨by rw [cellsE_length, hel], .inr ⟨g, cap, _, rfl, hbg, Blk.setCells _ _ hB1, by omega, by unfold maxLen; exact hcap, by rw [laySet_size, laySet_size, hs], ?_⟩⟩
      have h2 : (laySet (laySet cur (0 + i * 2) news) ((E.length - 1) * 2) [.string ⟨#[]⟩, .slice none 0 0]).toList.take ((E.length - 1) * 2) = (laySet cur (0 + i * 2) news).toList.take ((E.length - 1) * 2) := by
        have h3 := laySet_take (vs := [.string ⟨#[]⟩, .slice none 0 0]) (cs := laySet cur (0 + i * 2) news) (o := (E.length - 1) * 2) (by rw [hsz1, hs]; simp; omega) rfl
        have hq : (laySet cur (0 + i * 2) news).toList.length = cap * 2 := by rw [Array.length_toList, hsz1, hs]
        have h4 := congrArg (List.take ((E.length - 1) * 2)) h3
        rw [List.take_take, Nat.min_eq_left (by omega)] at h4
        rw [h4, List.take_append_of_le_length (by rw [List.length_take, hq]; omega), List.take_take, Nat.min_self]
      rw [h2, laySet_take (by rw [hs, hlen]; omega) (by rw [hlen]; omega), cellsE_erase, hnews, cellsE_take]
      congr 1
      rw [← ht, List.take_take, Nat.zero_add, Nat.min_eq_left (by omega)]
    · rw [hW.out]
      exact ⟨(setCells_kept g _ _ _).1.trans (setCells_kept g _ _ _).1, (setCells_kept g _ _ _).2.1.trans (setCells_kept g _ _ _).2.1, (setCells_kept g _ _ _).2.2.trans (setCells_kept g _ _ _).2.2, by rw [size_setCells, size_setCells]; exact Nat.le_refl _, fun k hk hne => by rw [heap_setCells g _ _ _ k (fun e => hne (by rw [e])), heap_setCells g _ _ _ k (fun e => hne (by rw [e]))]; rfl⟩
end Go.Proofs.Ytaoedejenjfhoaa
