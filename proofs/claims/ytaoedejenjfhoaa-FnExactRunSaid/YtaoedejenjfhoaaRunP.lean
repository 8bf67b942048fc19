/- The state of the reference's Run: the list of keys in a row of the call's own, and what has been given. -/
import Derived.Test.YtaoedejenjfhoaaRunK
namespace Go.Proofs.Ytaoedejenjfhoaa
open Go.RowKit Go.Maps

theorem OE.nil (w : World) (base : Nat) : OE w base (.slice none 0 0) [] := World.ownsRow_nil _ _ _ _
theorem OE.lt {w : World} {base : Nat} {v : Value} {E : List (List UInt8 × Value)} (h : OE w base v E) : ∀ k, v.ownBlock = some k → base ≤ k ∧ k < w.heap.size := World.ownsRow.lt h
theorem OE.of_blocks {w w' : World} {base : Nat} {v : Value} {E : List (List UInt8 × Value)} (h : OE w base v E) (hb : ∀ k, v.ownBlock = some k → k < w.heap.size → w'.heap[k]? = w.heap[k]?) : OE w' base v E := by
  have hlt := h.lt
  obtain ⟨h1, h2⟩ := h
  refine ⟨h1, ?_⟩
  rcases h2 with ⟨rfl, h0⟩ | ⟨g, cap, cur, rfl, hbg, hg, r⟩
  · exact .inl ⟨rfl, h0⟩
  · exact .inr ⟨g, cap, cur, rfl, hbg, by rw [hb g rfl (hlt g rfl).2]; exact hg, r⟩
/-- What an owned list of keys looks like. -/
theorem OE.form {w : World} {base : Nat} {v : Value} {E : List (List UInt8 × Value)} (h : OE w base v E) : ∃ A c, v = .slice A E.length c ∧ E.length ≤ c ∧ c ≤ 9223372036854775807 ∧ KR w A E ∧ (∀ g o s, A = some ⟨g, o, s⟩ → o = 0 ∧ s = none ∧ ∃ cur, Blk w g cur 45 ∧ cur.size = c * 2) := by
  obtain ⟨h1, h2⟩ := h
  rcases h2 with ⟨rfl, h0⟩ | ⟨g, cap, cur, rfl, hb, hg, hn, hm, hs, ht⟩
  · have : E = [] := List.eq_nil_of_length_eq_zero h0
    subst this
    exact ⟨none, 0, rfl, Nat.le_refl _, by decide, fun h => absurd rfl h, fun g o s h => by cases h⟩
  · refine ⟨some ⟨g, 0, none⟩, cap, rfl, hn, by unfold maxLen at hm; omega, fun _ => ⟨g, rfl, fun i e he => ?_⟩, fun g' o s e => ?_⟩
    · have hB : Blk w g cur 45 := hg
      have hi : i < E.length := (List.getElem?_eq_some_iff.1 he).1
      obtain ⟨c0, c1⟩ := cellsE_get0 E i e he
      rw [hB.cell, hB.cell]
      rw [← ht, List.getElem?_take, if_pos (by omega), Array.getElem?_toList] at c0 c1
      exact ⟨c0, c1⟩
    · injection e with e; injection e with e1 e2 e3; subst e1 e2 e3
      exact ⟨rfl, rfl, cur, hg, hs⟩
theorem cellsE_set (E : List (List UInt8 × Value)) (i : Nat) (c : List UInt8) (u0 u : Value) (h : E[i]? = some (c, u0)) : cellsE (E.set i (c, u)) = (cellsE E).set (i * 2 + 1) u := by
  induction E generalizing i with
  | nil => simp at h
  | cons e t ih =>
    have hc : cellsE (e :: t) = .string ⟨e.1.toArray⟩ :: e.2 :: cellsE t := by simp [cellsE]
    rcases i with _ | i
    · simp at h
      subst h
      rw [hc]
      simp [cellsE]
    · simp at h
      have h2 := ih i h
      have hc2 : cellsE (e :: t.set i (c, u)) = .string ⟨e.1.toArray⟩ :: e.2 :: cellsE (t.set i (c, u)) := by simp [cellsE]
      rw [List.set_cons_succ, hc, hc2, h2, show (i + 1) * 2 + 1 = i * 2 + 1 + 1 + 1 by omega]
      simp
theorem OE.set {w : World} {base g n cap : Nat} {E : List (List UInt8 × Value)} (h : OE w base (.slice (some ⟨g, 0, none⟩) n cap) E) {i : Nat} {c : List UInt8} {u0 : Value} (hi : E[i]? = some (c, u0)) (u : Value) :
    OE (w.setCell ⟨g, i * 2 + 1, none⟩ u) base (.slice (some ⟨g, 0, none⟩) n cap) (E.set i (c, u)) := by
  have hlt : i < E.length := (List.getElem?_eq_some_iff.1 hi).1
  obtain ⟨h1, h2⟩ := h
  unfold OE
  rw [List.length_set]
  refine ⟨by rw [cellsE_length, List.length_set], ?_⟩
  rcases h2 with ⟨h, _⟩ | ⟨g', cap', cur, h, hb, hg, hn, hm, hs, ht⟩
  · cases h
  · simp only [Value.slice.injEq, Option.some.injEq, Addr.mk.injEq, and_true] at h
    obtain ⟨rfl, rfl, rfl⟩ := h
    have hB : Blk w g cur 45 := hg
    refine .inr ⟨g, cap, _, rfl, hb, hB.set (i * 2 + 1) u, hn, hm, by simp [hs], ?_⟩
    rw [cellsE_set E i c u0 u hi, ← ht, Array.toList_setIfInBounds, List.take_set]
theorem run_append_E (ty : TypeId) (w : World) (base : Nat) (v : Value) (E : List (List UInt8 × Value)) (hown : OE w base v E) (g cp : Nat) (c : List UInt8) (u : Value) (hu : u.oneCell' = true) (h0 : w.cell? ⟨g, 0, none⟩ = some (.string ⟨c.toArray⟩)) (h1 : w.cell? ⟨g, 1, none⟩ = some u)
    (hlen : (E.length + 1) * 40 ≤ 140737488355328) (hbase : base ≤ w.heap.size) :
    ∃ v' w', (Builtin.append_ #[43, 43] ty #[v, .slice (some ⟨g, 0, none⟩) 1 cp]).run Try.prog w = .ok v' w' ∧ OE w' base v' (E ++ [(c, u)]) ∧ w.grownBy w' v.ownBlock ∧ (v'.ownBlock = v.ownBlock ∨ v'.ownBlock = some w.heap.size) := by
  obtain ⟨i0, hi, hz0, hz1, hz2⟩ := info_parts Try.infoH
  obtain ⟨v', w', e1, e2, e3, _, e5⟩ := run_append_own_at (P := Try.prog) w base 43 ty 45 i0 _ 2 40 Try.underlying43 hi hz0 hz1 hz2 rfl (by decide) v E.length (cellsE E) hown ⟨g, 0, none⟩ 1 cp [.string ⟨c.toArray⟩, u] rfl
    (fun j y hy => by
      rcases j with _ | _ | j
      · simp at hy; subst hy; exact h0
      · simp at hy; subst hy; exact h1
      · simp at hy) (fun y hy => by simp at hy; rcases hy with rfl | rfl; exact rfl; exact hu) (by unfold maxLen; omega) hlen hbase
  refine ⟨v', w', e1, ?_, e3, e5⟩
  unfold OE
  rw [cellsE_append, List.length_append]
  have : cellsE [(c, u)] = [.string ⟨c.toArray⟩, u] := by simp [cellsE]
  rw [this]
  exact e2
/-- The reference's list of keys, held by the variable in block B; its values lie in blocks of N. -/
structure KeyS (w : World) (base B : Nat) (N : Nat → Prop) (ow : Option Nat) (kv : Value) (E : List (List UInt8 × Value)) (K : KL) : Prop where
  cell : w.cell? ⟨B, 0, none⟩ = some kv
  free : w.frozen? ⟨B, 0, none⟩ = false
  ge : base ≤ B
  outB : ¬ N B
  own : OE w base kv E
  out : ∀ g, kv.ownBlock = some g → ¬ N g ∧ g ≠ B
  keys : E.map (·.1) = K.map (·.1)
  vals : SVals w (fun g => N g ∧ ow ≠ some g) (E.map (·.2)) (K.map (·.2))
structure SpS (w : World) (base B : Nat) (N : Nat → Prop) (kv : Value) (E : List (List UInt8 × Value)) (K : KL) (v : Value) (vs : List Value) (ls : List (List (List UInt8))) : Prop where
  key : KeyS w base B N v.ownBlock kv E K
  lt : ∀ g, N g → g < w.heap.size
  outs : Outs w base N v vs ls
theorem KeyS.ltB {w : World} {base B : Nat} {N : Nat → Prop} {ow : Option Nat} {kv : Value} {E : List (List UInt8 × Value)} {K : KL} (h : KeyS w base B N ow kv E K) : B < w.heap.size := World.block_lt_of_cell? _ _ h.cell
theorem KeyS.shape {w : World} {base B : Nat} {N : Nat → Prop} {ow : Option Nat} {kv : Value} {E : List (List UInt8 × Value)} {K : KL} (h : KeyS w base B N ow kv E K) : ∀ e ∈ E, ∃ A n c, e.2 = .slice A n c := by
  intro e he
  obtain ⟨i, hi⟩ := List.mem_iff_getElem?.1 he
  have hlt : i < E.length := (List.getElem?_eq_some_iff.1 hi).1
  have hl := h.vals.1
  simp only [List.length_map] at hl
  obtain ⟨l, hl2⟩ : ∃ l, (K.map (·.2))[i]? = some l := ⟨_, List.getElem?_eq_getElem (by simp; omega)⟩
  obtain ⟨A, c, h1, _⟩ := h.vals.2 i e.2 l (by rw [List.getElem?_map, hi]; rfl) hl2
  exact ⟨A, _, c, h1⟩
theorem KeyS.len {w : World} {base B : Nat} {N : Nat → Prop} {ow : Option Nat} {kv : Value} {E : List (List UInt8 × Value)} {K : KL} (h : KeyS w base B N ow kv E K) : E.length = K.length := by
  have := h.vals.1
  simpa using this
theorem SpS.below {w w' : World} {base B : Nat} {N : Nat → Prop} {kv v : Value} {E : List (List UInt8 × Value)} {K : KL} {vs : List Value} {ls : List (List (List UInt8))} (h : SpS w base B N kv E K v vs ls) (hb : Below w.heap.size w w') : SpS w' base B N kv E K v vs ls :=
  ⟨⟨(hb.cell h.key.ltB).trans h.key.cell, (hb.frozen h.key.ltB).trans h.key.free, h.key.ge, h.key.outB, h.key.own.of_blocks (fun g _ hl => hb.block g hl), h.key.out, h.key.keys, h.key.vals.of (fun g _ hl => hb.block g hl) (fun _ hg _ => hg)⟩,
    fun g hg => Nat.lt_of_lt_of_le (h.lt g hg) hb.size, h.outs.of fun g hg hl => ⟨hb.block g hl, hg⟩⟩
/-- A key more, without values. -/
theorem SpS.added {w w3 w4 : World} {base B : Nat} {N : Nat → Prop} {kv v kv' : Value} {E : List (List UInt8 × Value)} {K : KL} {vs : List Value} {ls : List (List (List UInt8))} (h : SpS w base B N kv E K v vs ls) (hbase : base ≤ w.heap.size) (hb : Below w.heap.size w w3) {c : List UInt8}
    (hown : OE w4 base kv' (E ++ [(c, .slice none 0 0)])) (hg : w3.grownBy w4 kv.ownBlock) (hat : kv'.ownBlock = kv.ownBlock ∨ kv'.ownBlock = some w3.heap.size) :
    SpS (w4.setCell ⟨B, 0, none⟩ kv') base B N kv' (E ++ [(c, .slice none 0 0)]) (K ++ [(c, [])]) v vs ls ∧ Below base w (w4.setCell ⟨B, 0, none⟩ kv') := by
  have hB := h.key.ltB
  have hsz := hb.size
  have hsz4 := hg.size
  have hkB : kv.ownBlock ≠ some B := fun e => (h.key.out B e).2 rfl
  have hB4 : w4.heap[B]? = w.heap[B]? := (hg.block B (by omega) (fun e => hkB e.symm)).trans (hb.block B hB)
  have hN4 : ∀ g, N g → g < w.heap.size → (w4.setCell ⟨B, 0, none⟩ kv').heap[g]? = w.heap[g]? := fun g hn hl => by
    rw [Below.heap_setCell _ _ _ _ (fun e => h.key.outB (by have e' : g = B := e; rw [← e']; exact hn))]
    exact (hg.block g (by omega) (fun e => (h.key.out g e.symm).1 hn)).trans (hb.block g hl)
  have hc4 : w4.cell? ⟨B, 0, none⟩ = some kv := (World.cell?_of_block (w := w) (a := ⟨B, 0, none⟩) hB4).trans h.key.cell
  have hf4 : w4.frozen? ⟨B, 0, none⟩ = false := (World.frozen?_of_block (w := w) (a := ⟨B, 0, none⟩) hB4).trans h.key.free
  have hkv' : kv'.ownBlock ≠ some B := by
    rcases hat with e | e
    · rw [e]; exact hkB
    · rw [e]; intro e2; injection e2 with e2; omega
  refine ⟨⟨⟨?_, ?_, h.key.ge, h.key.outB, hown.of_blocks (fun g hg2 _ => Below.heap_setCell _ _ _ _ (fun e => hkv' (by rw [hg2, e]))), fun g hg2 => ⟨fun hn => ?_, fun e => hkv' (by rw [hg2, e])⟩, ?_, ?_⟩, fun g hn => ?_, h.outs.of fun g hn hl => ⟨hN4 g hn hl, hn⟩⟩, ?_⟩
  · exact World.cell?_setCell_same _ _ _ (by rw [hc4])
  · rw [World.frozen?_setCell]; exact hf4
  · rcases hat with e | e
    · rw [e] at hg2; exact (h.key.out g hg2).1 hn
    · rw [e] at hg2; injection hg2 with hg2; have := h.lt g hn; omega
  · rw [List.map_append, List.map_append, h.key.keys]; rfl
  · rw [List.map_append, List.map_append]
    exact (h.key.vals.of (fun g hn hl => hN4 g hn.1 hl) (fun _ hn _ => hn)).snoc (SVal.nil _ _)
  · have := h.lt g hn
    rw [World.size_setCell]
    omega
  · refine (hb.mono hbase).trans (((Below.refl _ _).grown hg (by omega) (fun k hk => (h.key.own.lt k hk).1)).setCell h.key.ge _)
/-- The values u are laid at the i-th key. -/
theorem SpS.laid {w w' : World} {base B : Nat} {N : Nat → Prop} {g n cap : Nat} {v : Value} {E : List (List UInt8 × Value)} {K : KL} {vs : List Value} {ls : List (List (List UInt8))} (h : SpS w base B N (.slice (some ⟨g, 0, none⟩) n cap) E K v vs ls) (hbase : base ≤ w.heap.size) (hb : Below w.heap.size w w')
    {i : Nat} {c : List UInt8} {u0 u : Value} {l : List (List UInt8)} (hi : E[i]? = some (c, u0)) (hu : SVal w' (fun x => w.heap.size ≤ x) u l) :
    ∃ N', SpS (w'.setCell ⟨g, i * 2 + 1, none⟩ u) base B N' (.slice (some ⟨g, 0, none⟩) n cap) (E.set i (c, u)) (K.set i (c, l)) v vs ls ∧ Below base w (w'.setCell ⟨g, i * 2 + 1, none⟩ u) := by
  have hB := h.key.ltB
  have hg := h.key.own.lt g rfl
  have hgo := h.key.out g rfl
  have hsz := hb.size
  have hB' : (w'.setCell ⟨g, i * 2 + 1, none⟩ u).heap[B]? = w.heap[B]? := (Below.heap_setCell _ _ _ _ (fun e => hgo.2 e.symm)).trans (hb.block B hB)
  have hN' : ∀ x, N x → x < w.heap.size → (w'.setCell ⟨g, i * 2 + 1, none⟩ u).heap[x]? = w.heap[x]? := fun x hn hl =>
    (Below.heap_setCell _ _ _ _ (fun e => hgo.1 (by have e' : x = g := e; rw [← e']; exact hn))).trans (hb.block x hl)
  have how : ∀ x, w.heap.size ≤ x → v.ownBlock ≠ some x := fun x hx e => by have := (h.outs.own.lt x e).2; omega
  have hlt : i < E.length := (List.getElem?_eq_some_iff.1 hi).1
  have hkl := h.key.len
  refine ⟨fun x => N x ∨ (w.heap.size ≤ x ∧ x < w'.heap.size), ⟨⟨?_, ?_, h.key.ge, fun hn => ?_, ?_, fun x hx => ?_, ?_, ?_⟩, fun x hn => ?_, h.outs.of fun x hn hl => ⟨hN' x hn hl, .inl hn⟩⟩, ?_⟩
  · exact (World.cell?_of_block (w := w) (a := ⟨B, 0, none⟩) hB').trans h.key.cell
  · exact (World.frozen?_of_block (w := w) (a := ⟨B, 0, none⟩) hB').trans h.key.free
  · rcases hn with hn | hn
    · exact h.key.outB hn
    · omega
  · exact (h.key.own.of_blocks (fun x _ hl => hb.block x hl)).set hi u
  · have hx : g = x := by injection hx
    subst hx
    refine ⟨fun hn => ?_, hgo.2⟩
    rcases hn with hn | hn
    · exact hgo.1 hn
    · have := hg.2
      omega
  · rw [List.map_set, List.map_set, h.key.keys]
  · have hv : SVals (w'.setCell ⟨g, i * 2 + 1, none⟩ u) (fun x => (N x ∨ (w.heap.size ≤ x ∧ x < w'.heap.size)) ∧ v.ownBlock ≠ some x) (E.map (·.2)) (K.map (·.2)) := h.key.vals.of (fun x hn hl => hN' x hn.1 hl) (fun x hn _ => ⟨.inl hn.1, hn.2⟩)
    have hu' : SVal (w'.setCell ⟨g, i * 2 + 1, none⟩ u) (fun x => (N x ∨ (w.heap.size ≤ x ∧ x < w'.heap.size)) ∧ v.ownBlock ≠ some x) u l := hu.of (fun x hx _ => Below.heap_setCell _ _ _ _ (fun e => by have e' : x = g := e; omega)) (fun x hx hl => ⟨.inr ⟨hx, hl⟩, how x hx⟩)
    rw [List.map_set, List.map_set]
    refine ⟨by simp [hkl], fun j y m hy hm => ?_⟩
    rw [List.getElem?_set] at hy hm
    by_cases e : i = j
    · subst e
      rw [if_pos rfl, if_pos (by simpa using hlt)] at hy
      rw [if_pos rfl, if_pos (by simp; omega)] at hm
      injection hy with hy
      injection hm with hm
      rw [← hy, ← hm]
      exact hu'
    · rw [if_neg e] at hy hm
      exact hv.2 j y m hy hm
  · rw [World.size_setCell]
    rcases hn with hn | hn
    · have := h.lt x hn; omega
    · exact hn.2
  · exact (hb.mono hbase).setCell hg.1 _
theorem map_erase {α β : Type} (f : α → β) (l : List α) (i : Nat) : (l.eraseIdx i).map f = (l.map f).eraseIdx i := by
  rw [List.eraseIdx_eq_take_drop_succ, List.eraseIdx_eq_take_drop_succ, List.map_append, List.map_take, List.map_drop]
/-- The i-th key is taken out. -/
theorem SpS.gone {w w' : World} {base B : Nat} {N : Nat → Prop} {kv v kv' : Value} {E : List (List UInt8 × Value)} {K : KL} {vs : List Value} {ls : List (List (List UInt8))} (h : SpS w base B N kv E K v vs ls) (hbase : base ≤ w.heap.size) (i : Nat)
    (hown : OE w' base kv' (E.eraseIdx i)) (hg : w.grownBy w' kv.ownBlock) (hat : kv'.ownBlock = kv.ownBlock) :
    SpS (w'.setCell ⟨B, 0, none⟩ kv') base B N kv' (E.eraseIdx i) (K.eraseIdx i) v vs ls ∧ Below base w (w'.setCell ⟨B, 0, none⟩ kv') := by
  have hB := h.key.ltB
  have hsz4 := hg.size
  have hkB : kv.ownBlock ≠ some B := fun e => (h.key.out B e).2 rfl
  have hB4 : w'.heap[B]? = w.heap[B]? := hg.block B hB (fun e => hkB e.symm)
  have hN4 : ∀ g, N g → g < w.heap.size → (w'.setCell ⟨B, 0, none⟩ kv').heap[g]? = w.heap[g]? := fun g hn hl => by
    rw [Below.heap_setCell _ _ _ _ (fun e => h.key.outB (by have e' : g = B := e; rw [← e']; exact hn))]
    exact hg.block g hl (fun e => (h.key.out g e.symm).1 hn)
  have hc4 : w'.cell? ⟨B, 0, none⟩ = some kv := (World.cell?_of_block (w := w) (a := ⟨B, 0, none⟩) hB4).trans h.key.cell
  have hf4 : w'.frozen? ⟨B, 0, none⟩ = false := (World.frozen?_of_block (w := w) (a := ⟨B, 0, none⟩) hB4).trans h.key.free
  refine ⟨⟨⟨?_, ?_, h.key.ge, h.key.outB, hown.of_blocks (fun g hg2 _ => Below.heap_setCell _ _ _ _ (fun e => hkB (by rw [← hat, hg2, e]))), fun g hg2 => h.key.out g (by rw [← hat]; exact hg2), ?_, ?_⟩, fun g hn => ?_, h.outs.of fun g hn hl => ⟨hN4 g hn hl, hn⟩⟩, ?_⟩
  · exact World.cell?_setCell_same _ _ _ (by rw [hc4])
  · rw [World.frozen?_setCell]; exact hf4
  · rw [map_erase, map_erase, h.key.keys]
  · rw [map_erase, map_erase]
    have hv := h.key.vals.of (fun g hn hl => hN4 g hn.1 hl) (fun _ hn _ => hn)
    refine ⟨by rw [List.length_eraseIdx, List.length_eraseIdx, hv.1], fun j y m hy hm => ?_⟩
    rw [List.getElem?_eraseIdx] at hy hm
    by_cases e : j < i
    · rw [if_pos e] at hy hm; exact hv.2 j y m hy hm
    · rw [if_neg e] at hy hm; exact hv.2 (j + 1) y m hy hm
  · have := h.lt g hn
    rw [World.size_setCell]
    omega
  · exact (((Below.refl _ _).grown hg hbase (fun k hk => (h.key.own.lt k hk).1))).setCell h.key.ge _
/-- One row more is given. -/
theorem SpS.push {w w3 w4 : World} {base B c0 c4 : Nat} {N : Nat → Prop} {kv : Value} {E : List (List UInt8 × Value)} {K : KL} {A0 A4 : Option Addr} {vs : List Value} {u : Value} {l : List (List UInt8)} {ty : TypeId} {ls : List (List (List UInt8))} (h : SpS w base B N kv E K (.slice A0 vs.length c0) vs ls)
    (hb : Below w.heap.size w w3) (hu : SVal w3 (fun g => (N g ∧ (Value.slice A0 vs.length c0).ownBlock ≠ some g) ∨ w.heap.size ≤ g) u l) (hap : AppendedV (w3.alloc (.cells #[u] ty)) w4 base (.slice A0 vs.length c0) A4 (vs.length + 1) c4 (vs ++ [u])) :
    ∃ N', SpS w4 base B N' kv E K (.slice A4 (vs.length + 1) c4) (vs ++ [u]) (ls ++ [l]) := by
  have hsz : w3.heap.size < w4.heap.size := by have := hap.grown.size; rw [World.size_alloc] at this; omega
  have hsz0 := hb.size
  have hB := h.key.ltB
  have hblk : ∀ x, x < w.heap.size → (Value.slice A0 vs.length c0).ownBlock ≠ some x → w4.heap[x]? = w.heap[x]? := fun x hl hne =>
    (hap.grown.block x (by rw [World.size_alloc]; omega) (fun e => hne e.symm)).trans ((Below.heap_alloc w3 _ x (by omega)).trans (hb.block x hl))
  have hBn : (Value.slice A0 vs.length c0).ownBlock ≠ some B := fun e => h.key.outB (h.outs.in_ B e)
  have hkn : ∀ g, kv.ownBlock = some g → (Value.slice A0 vs.length c0).ownBlock ≠ some g := fun g hg e => (h.key.out g hg).1 (h.outs.in_ g e)
  have hnew : ∀ x, x < w.heap.size → (Value.slice A0 vs.length c0).ownBlock ≠ some x → (Value.slice A4 (vs.length + 1) c4).ownBlock ≠ some x := fun x hl hne e => by
    rcases hap.at_ with e1 | e1
    · rw [e1] at e; exact hne e
    · rw [e1, World.size_alloc] at e; injection e with e; omega
  refine ⟨fun g => N g ∨ (w.heap.size ≤ g ∧ g < w4.heap.size), ⟨⟨?_, ?_, h.key.ge, fun hn => ?_, h.key.own.of_blocks (fun g hg hl => hblk g hl (hkn g hg)), fun g hg => ⟨fun hn => ?_, (h.key.out g hg).2⟩, h.key.keys, ?_⟩, fun g hn => ?_, ?_⟩⟩
  · exact (World.cell?_of_block (w := w) (a := ⟨B, 0, none⟩) (hblk B hB hBn)).trans h.key.cell
  · exact (World.frozen?_of_block (w := w) (a := ⟨B, 0, none⟩) (hblk B hB hBn)).trans h.key.free
  · rcases hn with hn | hn
    · exact h.key.outB hn
    · omega
  · rcases hn with hn | hn
    · exact (h.key.out g hg).1 hn
    · have := (h.key.own.lt g hg).2; omega
  · exact h.key.vals.of (fun g hn hl => hblk g hl hn.2) (fun g hn hl => ⟨.inl hn.1, hnew g hl hn.2⟩)
  · rcases hn with hn | hn
    · have := h.lt g hn; omega
    · exact hn.2
  · have ho : Outs w3 base (fun g => N g ∨ (w.heap.size ≤ g ∧ g < w3.heap.size)) (.slice A0 vs.length c0) vs ls := h.outs.of fun g hg hl => ⟨hb.block g hl, .inl hg⟩
    refine ho.push (hu.of (fun _ _ _ => rfl) fun g hg hl => ?_) hap (fun g hg hx => ?_)
    · rcases hg with hg | hg
      · exact ⟨.inl hg.1, hg.2⟩
      · exact ⟨.inr ⟨hg, hl⟩, fun e => by have := (h.outs.own.lt g e).2; omega⟩
    · rcases hx with (hx | hx) | hx
      · exact .inl hx
      · exact .inr ⟨hx.1, hg⟩
      · exact .inr ⟨by omega, hg⟩
end Go.Proofs.Ytaoedejenjfhoaa
