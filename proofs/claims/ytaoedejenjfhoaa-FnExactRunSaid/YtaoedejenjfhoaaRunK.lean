/- The list of keys and the map from keys: what they have to do with each other. -/
import Derived.Test.YtaoedejenjfhoaaDelV
namespace Go.Proofs.Ytaoedejenjfhoaa
open Go.RowKit Go.Maps

abbrev KL := List (List UInt8 × List (List UInt8))
/-- The list K holds what f says, each key once, and no key without values. -/
structure RelK (K : KL) (f : Hdr) : Prop where
  nd : (K.map (·.1)).Nodup
  ne : ∀ (i : Nat) (e : List UInt8 × List (List UInt8)), K[i]? = some e → e.2 ≠ []
  at_ : ∀ (i : Nat) (e : List UInt8 × List (List UInt8)), K[i]? = some e → f e.1 = e.2
  no : ∀ k, k ∉ K.map (·.1) → f k = []
theorem RelK.nil : RelK [] (fun _ => []) := ⟨List.nodup_nil, fun i e h => by simp at h, fun i e h => by simp at h, fun _ _ => rfl⟩
theorem RelK.inj {K : KL} {f : Hdr} (h : RelK K f) {i j : Nat} {e e' : List UInt8 × List (List UInt8)} (hi : K[i]? = some e) (hj : K[j]? = some e') (he : e.1 = e'.1) : i = j := by
  have h1 : (K.map (·.1))[i]? = some e.1 := by rw [List.getElem?_map, hi]; rfl
  have h2 : (K.map (·.1))[j]? = some e.1 := by rw [List.getElem?_map, hj, he]; rfl
  obtain ⟨hl1, h1⟩ := List.getElem?_eq_some_iff.1 h1
  obtain ⟨hl2, h2⟩ := List.getElem?_eq_some_iff.1 h2
  have hp := List.pairwise_iff_getElem.1 h.nd
  rcases Nat.lt_trichotomy i j with h3 | h3 | h3
  · exact absurd (h1.trans h2.symm) (hp i j hl1 hl2 h3)
  · exact h3
  · exact absurd (h2.trans h1.symm) (hp j i hl2 hl1 h3)
theorem RelK.set {K : KL} {f : Hdr} (h : RelK K f) {i : Nat} {c : List UInt8} {l0 l : List (List UInt8)} (hi : K[i]? = some (c, l0)) (hl : l ≠ []) : RelK (K.set i (c, l)) (updF f c l) := by
  have hlt := (List.getElem?_eq_some_iff.1 hi).1
  have hkeys : (K.set i (c, l)).map (·.1) = K.map (·.1) := by
    rw [List.map_set]
    apply List.ext_getElem?
    intro j
    rw [List.getElem?_set]
    by_cases e : i = j
    · subst e; rw [if_pos rfl, if_pos (by simpa using hlt), List.getElem?_map, hi]; rfl
    · rw [if_neg e]
  have hget : ∀ (j : Nat) (e : List UInt8 × List (List UInt8)), (K.set i (c, l))[j]? = some e → (j = i ∧ e = (c, l)) ∨ (j ≠ i ∧ K[j]? = some e) := by
    intro j e he
    rw [List.getElem?_set] at he
    by_cases e1 : i = j
    · subst e1; rw [if_pos rfl, if_pos hlt] at he; injection he with he; exact .inl ⟨rfl, he.symm⟩
    · rw [if_neg e1] at he; exact .inr ⟨Ne.symm e1, he⟩
  refine ⟨by rw [hkeys]; exact h.nd, fun j e he => ?_, fun j e he => ?_, fun k hk => ?_⟩
  · rcases hget j e he with ⟨_, rfl⟩ | ⟨_, he⟩
    · exact hl
    · exact h.ne j e he
  · rcases hget j e he with ⟨_, rfl⟩ | ⟨hne, he⟩
    · exact updF_same _ _ _
    · rw [updF_other _ _ (fun e1 => hne (h.inj he hi e1))]; exact h.at_ j e he
  · rw [hkeys] at hk
    rw [updF_other _ _ (fun e1 => hk (by rw [e1]; exact List.mem_map.2 ⟨_, List.mem_of_getElem? hi, rfl⟩))]
    exact h.no k hk
theorem RelK.snoc {K : KL} {f : Hdr} (h : RelK K f) {c : List UInt8} {l : List (List UInt8)} (hc : c ∉ K.map (·.1)) (hl : l ≠ []) : RelK (K ++ [(c, l)]) (updF f c l) := by
  have hget : ∀ (j : Nat) (e : List UInt8 × List (List UInt8)), (K ++ [(c, l)])[j]? = some e → e = (c, l) ∨ K[j]? = some e := by
    intro j e he
    rcases Nat.lt_or_ge j K.length with h1 | h1
    · rw [List.getElem?_append_left h1] at he; exact .inr he
    · rw [List.getElem?_append_right h1] at he
      obtain ⟨hlt, he⟩ := List.getElem?_eq_some_iff.1 he
      simp at hlt
      simp [hlt] at he
      exact .inl he.symm
  have hmem : ∀ {j : Nat} {e : List UInt8 × List (List UInt8)}, K[j]? = some e → e.1 ≠ c := fun {j e} he e1 => hc (by rw [← e1]; exact List.mem_map.2 ⟨_, List.mem_of_getElem? he, rfl⟩)
  refine ⟨?_, fun j e he => ?_, fun j e he => ?_, fun k hk => ?_⟩
  · rw [List.map_append, List.nodup_append]
    refine ⟨h.nd, by simp, fun a ha b hb => ?_⟩
    simp at hb
    subst hb
    exact fun e => hc (e ▸ ha)
  · rcases hget j e he with rfl | he
    · exact hl
    · exact h.ne j e he
  · rcases hget j e he with rfl | he
    · exact updF_same _ _ _
    · rw [updF_other _ _ (hmem he)]; exact h.at_ j e he
  · rw [List.map_append, List.mem_append] at hk
    rw [updF_other _ _ (fun e1 => hk (.inr (by simp [e1])))]
    exact h.no k (fun h1 => hk (.inl h1))
theorem RelK.erase {K : KL} {f : Hdr} (h : RelK K f) {i : Nat} {c : List UInt8} {l0 : List (List UInt8)} (hi : K[i]? = some (c, l0)) : RelK (K.eraseIdx i) (updF f c []) := by
  have hget : ∀ (j : Nat) (e : List UInt8 × List (List UInt8)), (K.eraseIdx i)[j]? = some e → ∃ m, m ≠ i ∧ K[m]? = some e := by
    intro j e he
    rw [List.getElem?_eraseIdx] at he
    by_cases e1 : j < i
    · rw [if_pos e1] at he; exact ⟨j, by omega, he⟩
    · rw [if_neg e1] at he; exact ⟨j + 1, by omega, he⟩
  refine ⟨(List.Nodup.sublist ((List.eraseIdx_sublist _ _).map _) h.nd), fun j e he => ?_, fun j e he => ?_, fun k hk => ?_⟩
  · obtain ⟨m, _, he⟩ := hget j e he
    exact h.ne m e he
  · obtain ⟨m, hm, he⟩ := hget j e he
    rw [updF_other _ _ (fun e1 => hm (h.inj he hi e1))]; exact h.at_ m e he
  · by_cases e1 : k = c
    · subst e1; exact updF_same _ _ _
    · rw [updF_other _ _ e1]
      refine h.no k fun hmem => hk ?_
      obtain ⟨e, he, rfl⟩ := List.mem_map.1 hmem
      obtain ⟨m, hm⟩ := List.mem_iff_getElem?.1 he
      refine List.mem_map.2 ⟨e, ?_, rfl⟩
      refine List.mem_iff_getElem?.2 ?_
      have hne : m ≠ i := fun e2 => by subst e2; rw [hi] at hm; injection hm with hm; exact e1 (by rw [← hm])
      rcases Nat.lt_or_gt_of_ne hne with h1 | h1
      · exact ⟨m, by rw [List.getElem?_eraseIdx, if_pos h1]; exact hm⟩
      · exact ⟨m - 1, by rw [List.getElem?_eraseIdx, if_neg (by omega), show m - 1 + 1 = m by omega]; exact hm⟩
/-- Where a key stands: it is there, or nothing lies at it. -/
theorem keyIdx_cases (E : List (List UInt8 × Value)) (c : List UInt8) : (∃ i : Nat, i < E.length ∧ keyIdx E c = i ∧ ∃ u, E[i]? = some (c, u)) ∨ (keyIdx E c = -1 ∧ c ∉ E.map (·.1)) := by
  rcases h : E.findIdx? (fun e => e.1 == c) with _ | i
  · refine .inr ⟨by unfold keyIdx; rw [h], fun hm => ?_⟩
    rw [List.findIdx?_eq_none_iff] at h
    obtain ⟨e, he, rfl⟩ := List.mem_map.1 hm
    have := h e he
    simp at this
  · obtain ⟨hlt, h1, _⟩ := List.findIdx?_eq_some_iff_getElem.1 h
    refine .inl ⟨i, hlt, by unfold keyIdx; rw [h], E[i].2, ?_⟩
    rw [List.getElem?_eq_getElem hlt]
    have : E[i].1 = c := by simpa using h1
    rw [← this]
end Go.Proofs.Ytaoedejenjfhoaa
