/- The state of the reference's Header: an owned list of keys, ascending, with their values; what an insert and an append leave of it. No walk. -/
import Derived.Test.YtilhgjcjofobeaaDoorZInsW
namespace Go.Proofs.YtilhgjcjofobeaaDoor
open Go.RowKit Go.Maps

structure HdO (w : World) (base : Nat) (v : Value) (E : List (List UInt8 × Value)) (f : HdrF) : Prop where
  own : OE w base v E
  vals : ∀ e ∈ E, OS w base e.2 (f e.1)
  off : ∀ e ∈ E, ∀ g, e.2.ownBlock = some g → v.ownBlock ≠ some g
  apart : ∀ e ∈ E, ∀ e' ∈ E, ∀ g, e.2.ownBlock = some g → e'.2.ownBlock = some g → e.1 = e'.1
  sorted : (E.map (·.1)).Pairwise (· < ·)
theorem HdO.nil (w : World) (base : Nat) (f : HdrF) : HdO w base (.slice none 0 0) [] f :=
  ⟨OE.nil _ _, fun e h => (by cases h), fun e h => (by cases h), fun e h => (by cases h), List.Pairwise.nil⟩
theorem HdO.shape {w : World} {base : Nat} {v : Value} {E : List (List UInt8 × Value)} {f : HdrF} (h : HdO w base v E f) : ∀ e ∈ E, ∃ A n c, e.2 = .slice A n c := fun e he => by
  obtain ⟨A, c, h1, _⟩ := (h.vals e he).form
  exact ⟨A, _, c, h1⟩
theorem HdO.below {w w' : World} {base : Nat} {v : Value} {E : List (List UInt8 × Value)} {f : HdrF} (h : HdO w base v E f) (hb : Below w.heap.size w w') : HdO w' base v E f :=
  ⟨h.own.of_blocks (fun g _ hl => hb.block g hl), fun e he => (h.vals e he).below hb, h.off, h.apart, h.sorted⟩
/-- Where a key belongs. -/
def PosAt (E : List (List UInt8 × Value)) (i : Nat) (k : List UInt8) : Prop := (∀ j e, j < i → E[j]? = some e → e.1 < k) ∧ (∀ e, E[i]? = some e → ¬ e.1 < k)
theorem PosAt.after {E : List (List UInt8 × Value)} {i : Nat} {k : List UInt8} (h : PosAt E i k) (hs : (E.map (·.1)).Pairwise (· < ·)) (hne : ∀ e, E[i]? = some e → e.1 ≠ k) : (∀ a ∈ (E.take i).map (·.1), a < k) ∧ (∀ a ∈ (E.drop i).map (·.1), k < a) := by
  refine ⟨fun a ha => ?_, fun a ha => ?_⟩
  · obtain ⟨e, he, rfl⟩ := List.mem_map.1 ha
    obtain ⟨j, hj⟩ := List.mem_iff_getElem?.1 he
    rw [List.getElem?_take] at hj
    split at hj
    · rename_i hji
      exact h.1 j e hji hj
    · cases hj
  · obtain ⟨e, he, rfl⟩ := List.mem_map.1 ha
    obtain ⟨j, hj⟩ := List.mem_iff_getElem?.1 he
    rw [List.getElem?_drop] at hj
    obtain ⟨e0, he0⟩ : ∃ e0, E[i]? = some e0 := by
      have hlt := (List.getElem?_eq_some_iff.1 hj).1
      exact ⟨_, List.getElem?_eq_getElem (by omega)⟩
    have h1 : k < e0.1 := by
      rcases List.le_iff_lt_or_eq.1 (List.not_lt.1 (h.2 e0 he0)) with h2 | h2
      · exact h2
      · exact absurd h2.symm (hne e0 he0)
    rcases j with _ | j
    · rw [Nat.add_zero, he0] at hj
      injection hj with hj
      rw [← hj]; exact h1
    · obtain ⟨hl0, hg0⟩ := List.getElem?_eq_some_iff.1 he0
      obtain ⟨hl1, hg1⟩ := List.getElem?_eq_some_iff.1 hj
      have := List.pairwise_iff_getElem.1 hs i (i + (j + 1)) (by simpa using hl0) (by simpa using hl1) (by omega)
      simp only [List.getElem_map, hg0, hg1] at this
      exact List.lt_trans h1 this
theorem insE_keys (E : List (List UInt8 × Value)) (i : Nat) (k : List UInt8) : (insE E i k).map (·.1) = (E.take i).map (·.1) ++ k :: (E.drop i).map (·.1) := by simp [insE]
theorem insE_mem {E : List (List UInt8 × Value)} {i : Nat} {k : List UInt8} {e : List UInt8 × Value} (h : e ∈ insE E i k) : e = (k, .slice none 0 0) ∨ e ∈ E := by
  unfold insE at h
  rcases List.mem_append.1 h with h | h
  · exact .inr (List.mem_of_mem_take h)
  · rcases List.mem_cons.1 h with h | h
    · exact .inl h
    · exact .inr (List.mem_of_mem_drop h)
theorem insE_at (E : List (List UInt8 × Value)) (i : Nat) (k : List UInt8) (hi : i ≤ E.length) : (insE E i k)[i]? = some (k, .slice none 0 0) := by
  unfold insE
  rw [List.getElem?_append_right (by rw [List.length_take]; omega), List.length_take, show i - min i E.length = 0 by omega]
  rfl
theorem HdO.inserted {w w' : World} {base i : Nat} {v : Value} {E : List (List UInt8 × Value)} {f : HdrF} {k : List UInt8} {e : Ending} (h : HdO w base v E f) (hp : PosAt E i k) (hne : ∀ e, E[i]? = some e → e.1 ≠ k) (hf : f k = []) (hi : i ≤ E.length) (he : InsEnd base v (insE E i k) w e w') :
    ∃ (A' : Option Addr) (c' : Nat), e = .returned (.slice A' (E.length + 1) c') ∧ HdO w' base (.slice A' (E.length + 1) c') (insE E i k) f ∧ w.grownBy w' v.ownBlock := by
  obtain ⟨A', c', h1, h2, h3, h4⟩ := he
  rw [insE_length E i k hi] at h1 h2 h4
  obtain ⟨h5, h6⟩ := hp.after h.sorted hne
  have hb : ∀ x ∈ E, ∀ g, x.2.ownBlock = some g → w'.heap[g]? = w.heap[g]? := fun x hx g hg => h3.block g ((h.vals x hx).lt g hg).2 (fun e => h.off x hx g hg e.symm)
  refine ⟨A', c', h1, ⟨h2, fun x hx => ?_, fun x hx g hg => ?_, fun x hx y hy g hxg hyg => ?_, ?_⟩, h3⟩
  · rcases insE_mem hx with rfl | hx
    · rw [hf]; exact OS.nil _ _
    · exact (h.vals x hx).of_blocks (fun g hg _ => hb x hx g hg)
  · rcases insE_mem hx with rfl | hx
    · cases hg
    · rcases h4 with h4 | ⟨g4, h4, hge⟩
      · rw [h4]; exact h.off x hx g hg
      · rw [h4]
        intro e
        injection e with e
        have := ((h.vals x hx).lt g hg).2
        omega
  · rcases insE_mem hx with rfl | hx
    · cases hxg
    · rcases insE_mem hy with rfl | hy
      · cases hyg
      · exact h.apart x hx y hy g hxg hyg
  · rw [insE_keys, List.pairwise_append]
    have hs := h.sorted
    rw [← List.take_append_drop i E, List.map_append, List.pairwise_append] at hs
    refine ⟨hs.1, List.pairwise_cons.2 ⟨h6, hs.2.1⟩, fun a ha b hb => ?_⟩
    rcases List.mem_cons.1 hb with rfl | hb
    · exact h5 a ha
    · exact hs.2.2 a ha b hb
theorem HdO.key_inj {w : World} {base : Nat} {v : Value} {E : List (List UInt8 × Value)} {f : HdrF} (h : HdO w base v E f) {i j : Nat} {e e' : List UInt8 × Value} (hi : E[i]? = some e) (hj : E[j]? = some e') (he : e.1 = e'.1) : i = j := by
  obtain ⟨hl1, h1⟩ := List.getElem?_eq_some_iff.1 hi
  obtain ⟨hl2, h2⟩ := List.getElem?_eq_some_iff.1 hj
  have hp := List.pairwise_iff_getElem.1 h.sorted
  rcases Nat.lt_trichotomy i j with h3 | h3 | h3
  · have := hp i j (by simpa using hl1) (by simpa using hl2) h3
    simp only [List.getElem_map, h1, h2] at this
    rw [he] at this
    exact absurd this (List.lt_irrefl _)
  · exact h3
  · have := hp j i (by simpa using hl2) (by simpa using hl1) h3
    simp only [List.getElem_map, h1, h2] at this
    rw [he] at this
    exact absurd this (List.lt_irrefl _)
theorem map_set_key {E : List (List UInt8 × Value)} {i : Nat} {k : List UInt8} {u : Value} (hi : E[i]? = some (k, u)) (u' : Value) : (E.set i (k, u')).map (·.1) = E.map (·.1) := by
  have hlt := (List.getElem?_eq_some_iff.1 hi).1
  apply List.ext_getElem?
  intro j
  rw [List.getElem?_map, List.getElem?_map, List.getElem?_set]
  by_cases e : i = j
  · subst e; rw [if_pos rfl, if_pos hlt, hi]; rfl
  · rw [if_neg e]
theorem HdO.put {w wb : World} {base g n cap i : Nat} {E : List (List UInt8 × Value)} {f : HdrF} {k s : List UInt8} {u u' : Value} (h : HdO w base (.slice (some ⟨g, 0, none⟩) n cap) E f) (hi : E[i]? = some (k, u)) (hos : OS wb base u' (f k ++ [s])) (hg : w.grownBy wb u.ownBlock) (hat : u'.ownBlock = u.ownBlock ∨ u'.ownBlock = some w.heap.size) :
    HdO (wb.setCell ⟨g, i * 2 + 1, none⟩ u') base (.slice (some ⟨g, 0, none⟩) n cap) (E.set i (k, u')) (updF f k (f k ++ [s])) := by
  have hmi : (k, u) ∈ E := List.mem_of_getElem? hi
  have hgu : u.ownBlock ≠ some g := fun e => h.off _ hmi g e rfl
  have hglt := (h.own.lt g rfl).2
  have hgu' : ∀ q, u'.ownBlock = some q → q ≠ g := fun q hq e => by
    subst e
    rcases hat with h1 | h1
    · rw [h1] at hq; exact hgu hq
    · rw [h1] at hq; injection hq with hq; omega
  have hownb : OE wb base (.slice (some ⟨g, 0, none⟩) n cap) E := h.own.of_blocks (fun q hq hl => hg.block q hl (fun e => by
    have hq' : some g = some q := hq
    injection hq' with hq'
    exact hgu (by rw [← e, hq'])))
  have hlt := (List.getElem?_eq_some_iff.1 hi).1
  have hmem : ∀ x ∈ E.set i (k, u'), x = (k, u') ∨ (x ∈ E ∧ x.1 ≠ k) := fun x hx => by
    obtain ⟨j, hj⟩ := List.mem_iff_getElem?.1 hx
    rw [List.getElem?_set] at hj
    by_cases e : i = j
    · subst e; rw [if_pos rfl, if_pos hlt] at hj; injection hj with hj; exact .inl hj.symm
    · rw [if_neg e] at hj
      exact .inr ⟨List.mem_of_getElem? hj, fun e2 => e (h.key_inj hi hj e2.symm)⟩
  have hvu : ∀ x ∈ E, x.1 ≠ k → ∀ q, x.2.ownBlock = some q → u.ownBlock ≠ some q := fun x hx hk q hq e => hk (h.apart x hx _ hmi q hq e)
  have hvu' : ∀ x ∈ E, x.1 ≠ k → ∀ q, x.2.ownBlock = some q → u'.ownBlock ≠ some q := fun x hx hk q hq e => by
    rcases hat with h1 | h1
    · rw [h1] at e; exact hvu x hx hk q hq e
    · rw [h1] at e; injection e with e; have := ((h.vals x hx).lt q hq).2; omega
  refine ⟨hownb.set hi u', fun x hx => ?_, fun x hx q hq => ?_, fun x hx y hy q hxq hyq => ?_, by rw [map_set_key hi]; exact h.sorted⟩
  · rcases hmem x hx with rfl | ⟨hx, hk⟩
    · rw [updF_same]
      exact hos.of_blocks (fun q hq _ => Below.heap_setCell _ _ _ _ (hgu' q hq))
    · rw [updF_other _ _ hk]
      refine (h.vals x hx).of_blocks (fun q hq hl => (Below.heap_setCell _ _ _ _ (fun e => h.off x hx q hq (by have e' : q = g := e; rw [e']; rfl))).trans (hg.block q hl (fun e => hvu x hx hk q hq e.symm)))
  · rcases hmem x hx with rfl | ⟨hx, hk⟩
    · intro e
      injection e with e
      exact hgu' q hq e.symm
    · exact h.off x hx q hq
  · rcases hmem x hx with rfl | ⟨hx, hk⟩
    · rcases hmem y hy with rfl | ⟨hy, hk2⟩
      · rfl
      · exact absurd hxq (hvu' y hy hk2 q hyq)
    · rcases hmem y hy with rfl | ⟨hy, hk2⟩
      · exact absurd hyq (hvu' x hx hk q hxq)
      · exact h.apart x hx y hy q hxq hyq
/-- Two ascending lists with the same members are one. -/
theorem sorted_unique : ∀ {A B : List (List UInt8)}, A.Pairwise (· < ·) → B.Pairwise (· < ·) → (∀ x, x ∈ A ↔ x ∈ B) → A = B
  | [], [], _, _, _ => rfl
  | [], b :: B, _, _, h => absurd ((h b).2 (List.mem_cons_self ..)) (by simp)
  | a :: A, [], _, _, h => absurd ((h a).1 (List.mem_cons_self ..)) (by simp)
  | a :: A, b :: B, hA, hB, h => by
    obtain ⟨a1, a2⟩ := List.pairwise_cons.1 hA
    obtain ⟨b1, b2⟩ := List.pairwise_cons.1 hB
    have hab : a = b := by
      rcases List.mem_cons.1 ((h a).1 (List.mem_cons_self ..)) with e | e
      · exact e
      · rcases List.mem_cons.1 ((h b).2 (List.mem_cons_self ..)) with e2 | e2
        · exact e2.symm
        · exact absurd (List.lt_trans (b1 a e) (a1 b e2)) (List.lt_irrefl _)
    subst hab
    rw [sorted_unique a2 b2 (fun x => ?_)]
    constructor
    · intro hx
      rcases List.mem_cons.1 ((h x).1 (List.mem_cons_of_mem _ hx)) with e | e
      · subst e; exact absurd (a1 x hx) (List.lt_irrefl _)
      · exact e
    · intro hx
      rcases List.mem_cons.1 ((h x).2 (List.mem_cons_of_mem _ hx)) with e | e
      · subst e; exact absurd (b1 x hx) (List.lt_irrefl _)
      · exact e
end Go.Proofs.YtilhgjcjofobeaaDoor
