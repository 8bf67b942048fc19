/- Slices of slices of strings that the call itself owns, and appends onto them. -/
import Derived.Test.YtaoedejenjfhoaaSlOs
namespace Go.Proofs.Ytaoedejenjfhoaa
open Go.RowKit

/-- A slice's address under which the values vs lie (of an empty slice nothing is said). -/
def VR (w : World) (A : Option Addr) (vs : List Value) : Prop :=
  vs ≠ [] → ∃ g o, A = some ⟨g, o, none⟩ ∧ ∀ i u, vs[i]? = some u → w.cell? ⟨g, o + i, none⟩ = some u
theorem VR.nil (w : World) (A : Option Addr) : VR w A [] := fun h => absurd rfl h
theorem VR.lt {w : World} {A : Option Addr} {vs : List Value} (h : VR w A vs) : ∀ g o, A = some ⟨g, o, none⟩ → vs ≠ [] → g < w.heap.size := by
  intro g o e hne
  obtain ⟨g', o', he, hx⟩ := h hne
  rw [e] at he; injection he with he; injection he with h1 h2; subst h1; subst h2
  rcases vs with _ | ⟨s, t⟩
  · exact absurd rfl hne
  · exact World.block_lt_of_cell? _ _ (hx 0 s rfl)
theorem VR.of_blocks {w w' : World} {A : Option Addr} {vs : List Value} (h : VR w A vs) (hb : ∀ g o, A = some ⟨g, o, none⟩ → vs ≠ [] → g < w.heap.size → w'.heap[g]? = w.heap[g]?) : VR w' A vs := by
  intro hne
  obtain ⟨g, o, he, hx⟩ := h hne
  exact ⟨g, o, he, fun i u hu => (World.cell?_of_block (w := w) (a := ⟨g, o + i, none⟩) (hb g o he hne (h.lt g o he hne))).trans (hx i u hu)⟩
theorem VR.below {w w' : World} {A : Option Addr} {vs : List Value} (h : VR w A vs) (hb : Below w.heap.size w w') : VR w' A vs := h.of_blocks fun g _ _ _ hl => hb.block g hl
theorem VR.one (w : World) (v : Value) (t : TypeId) (g : Nat) (hg : g = w.heap.size) : VR (w.alloc (.cells #[v] t)) (some ⟨g, 0, none⟩) [v] := by
  subst hg
  intro _
  refine ⟨_, _, rfl, fun i u hu => ?_⟩
  rcases i with _ | i
  · simp at hu; subst hu; simp
  · simp at hu
theorem VR.at_ {w : World} {g o : Nat} {vs : List Value} (h : VR w (some ⟨g, o, none⟩) vs) (i : Nat) (u : Value) (hu : vs[i]? = some u) : w.cell? ⟨g, o + i, none⟩ = some u := by
  obtain ⟨g', o', he, hx⟩ := h (by rintro rfl; simp at hu)
  injection he with he; injection he with h1 h2; subst h1; subst h2
  exact hx i u hu
/-- A slice of strings, as a value, that reads as l and lies in a block of which P. -/
def SVal (w : World) (P : Nat → Prop) (v : Value) (l : List (List UInt8)) : Prop := ∃ A c, v = .slice A l.length c ∧ l.length ≤ c ∧ c ≤ 9223372036854775807 ∧ SL w A l ∧ ∀ g o, A = some ⟨g, o, none⟩ → l ≠ [] → P g
theorem SVal.nil (w : World) (P : Nat → Prop) : SVal w P (.slice none 0 0) [] := ⟨none, 0, rfl, Nat.le_refl _, by decide, SL.nil _ _, fun _ _ h => by cases h⟩
theorem SVal.one {w : World} {P : Nat → Prop} {v : Value} {l : List (List UInt8)} (h : SVal w P v l) : v.oneCell' = true := by
  obtain ⟨A, c, rfl, _⟩ := h
  rfl
theorem SL.of_block {w w' : World} {A : Option Addr} {ls : List (List UInt8)} (h : SL w A ls) (hb : ∀ g o, A = some ⟨g, o, none⟩ → ls ≠ [] → g < w.heap.size → w'.heap[g]? = w.heap[g]?) : SL w' A ls := by
  intro hne
  obtain ⟨g, o, he, hx⟩ := h hne
  exact ⟨g, o, he, fun i u hu => (World.cell?_of_block (w := w) (a := ⟨g, o + i, none⟩) (hb g o he hne (h.lt g o he hne))).trans (hx i u hu)⟩
theorem SVal.of {w w' : World} {P Q : Nat → Prop} {v : Value} {l : List (List UInt8)} (h : SVal w P v l) (hb : ∀ g, P g → g < w.heap.size → w'.heap[g]? = w.heap[g]?) (hq : ∀ g, P g → g < w.heap.size → Q g) : SVal w' Q v l := by
  obtain ⟨A, c, h1, h2, h3, h4, h5⟩ := h
  exact ⟨A, c, h1, h2, h3, h4.of_block fun g o e hne hl => hb g (h5 g o e hne) hl, fun g o e hne => hq g (h5 g o e hne) (h4.lt g o e hne)⟩
def SVals (w : World) (P : Nat → Prop) (vs : List Value) (ls : List (List (List UInt8))) : Prop := vs.length = ls.length ∧ ∀ (i : Nat) (v : Value) (l : List (List UInt8)), vs[i]? = some v → ls[i]? = some l → SVal w P v l
theorem SVals.nil (w : World) (P : Nat → Prop) : SVals w P [] [] := ⟨rfl, fun i v s h => by simp at h⟩
theorem SVals.snoc {w : World} {P : Nat → Prop} {vs : List Value} {ls : List (List (List UInt8))} (h : SVals w P vs ls) {v : Value} {l : List (List UInt8)} (hv : SVal w P v l) : SVals w P (vs ++ [v]) (ls ++ [l]) := by
  refine ⟨by simp [h.1], fun i u m hu hm => ?_⟩
  rcases Nat.lt_trichotomy i vs.length with hlt | rfl | hlt
  · rw [List.getElem?_append_left hlt] at hu
    rw [List.getElem?_append_left (h.1 ▸ hlt)] at hm
    exact h.2 i u m hu hm
  · rw [List.getElem?_append_right (Nat.le_refl _)] at hu
    rw [h.1, List.getElem?_append_right (Nat.le_refl _)] at hm
    simp at hu hm
    subst hu hm
    exact hv
  · rw [List.getElem?_eq_none (by simp; omega)] at hu
    cases hu
theorem SVals.of {w w' : World} {P Q : Nat → Prop} {vs : List Value} {ls : List (List (List UInt8))} (h : SVals w P vs ls) (hb : ∀ g, P g → g < w.heap.size → w'.heap[g]? = w.heap[g]?) (hq : ∀ g, P g → g < w.heap.size → Q g) : SVals w' Q vs ls :=
  ⟨h.1, fun i v l hv hl => (h.2 i v l hv hl).of hb hq⟩
theorem Try.infoSs : (Try.prog.info? 31).map (fun i => (i.zero, i.size, i.bytes)) = some (some (.slice none 0 0), 1, 24) := by kernel_rfl
/-- The slice v is the call's own (its row lies from block base on) and holds the values vs. -/
def OV (w : World) (base : Nat) (v : Value) (vs : List Value) : Prop := w.ownsRow base 31 1 v vs.length vs
theorem OV.nil (w : World) (base : Nat) : OV w base (.slice none 0 0) [] := World.ownsRow_nil _ _ _ _
theorem OV.alloc {w : World} {base : Nat} {v : Value} {vs : List Value} (h : OV w base v vs) (o : Obj) : OV (w.alloc o) base v vs := World.ownsRow.alloc h o
theorem OV.lt {w : World} {base : Nat} {v : Value} {vs : List Value} (h : OV w base v vs) : ∀ k, v.ownBlock = some k → base ≤ k ∧ k < w.heap.size := World.ownsRow.lt h
theorem OV.form {w : World} {base : Nat} {v : Value} {vs : List Value} (h : OV w base v vs) : ∃ A c, v = .slice A vs.length c ∧ vs.length ≤ c ∧ c ≤ 9223372036854775807 ∧ VR w A vs := by
  obtain ⟨h1, h2⟩ := h
  rcases h2 with ⟨rfl, h0⟩ | ⟨g, cap, cur, rfl, hb, hg, hn, hm, hs, ht⟩
  · have : vs = [] := List.eq_nil_of_length_eq_zero h0
    subst this
    exact ⟨none, 0, rfl, Nat.le_refl _, by decide, VR.nil _ _⟩
  · refine ⟨some ⟨g, 0, none⟩, cap, rfl, hn, by unfold maxLen at hm; omega, fun _ => ⟨g, 0, rfl, fun i u hu => ?_⟩⟩
    rw [Nat.zero_add, cell_of_row w g i cur 31 (0, 0) hg]
    have hi : i < vs.length := by
      rcases Nat.lt_or_ge i vs.length with h' | h'
      · exact h'
      · rw [List.getElem?_eq_none h'] at hu; cases hu
    rw [← ht, List.getElem?_take, if_pos (by omega)] at hu
    simpa using hu
theorem OV.of_blocks {w w' : World} {base : Nat} {v : Value} {vs : List Value} (h : OV w base v vs) (hb : ∀ k, v.ownBlock = some k → k < w.heap.size → w'.heap[k]? = w.heap[k]?) : OV w' base v vs := by
  have hlt := h.lt
  obtain ⟨h1, h2⟩ := h
  refine ⟨h1, ?_⟩
  rcases h2 with ⟨rfl, h0⟩ | ⟨g, cap, cur, rfl, hbg, hg, r⟩
  · exact .inl ⟨rfl, h0⟩
  · exact .inr ⟨g, cap, cur, rfl, hbg, by rw [hb g rfl (hlt g rfl).2]; exact hg, r⟩
theorem OV.below {w w' : World} {base : Nat} {v : Value} {vs : List Value} (h : OV w base v vs) (hb : Below w.heap.size w w') : OV w' base v vs := h.of_blocks fun k _ hk => hb.block k hk
set_option maxRecDepth 40000 in
theorem run_append_V (t ty : TypeId) (ht : Try.prog.underlying t = some (.slice 31)) (w : World) (base : Nat) (v : Value) (vs : List Value) (hown : OV w base v vs) (ad : Addr) (ms : List Value) (c : Nat)
    (hcells : ∀ j u, ms[j]? = some u → w.cell? (ad.add j) = some u) (h1 : ∀ u ∈ ms, u.oneCell' = true) (hlen : (vs.length + ms.length) * 24 ≤ 140737488355328) (hbase : base ≤ w.heap.size) :
    ∃ v' w', (Builtin.append_ #[t, t] ty #[v, .slice (some ad) ms.length c]).run Try.prog w = .ok v' w' ∧ OV w' base v' (vs ++ ms) ∧ w.grownBy w' v.ownBlock ∧ (v'.ownBlock = v.ownBlock ∨ v'.ownBlock = some w.heap.size) := by
  obtain ⟨i0, hi, hz0, hz1, hz2⟩ := info_parts Try.infoSs
  obtain ⟨v', w', h1, h2, h3, _, h5⟩ := run_append_own_at (P := Try.prog) w base t ty 31 i0 (.slice none 0 0) 1 24 ht hi hz0 hz1 hz2 rfl (by decide) v vs.length vs hown ad ms.length c ms (by omega)
    hcells h1 (by unfold maxLen; omega) (by omega) hbase
  refine ⟨v', w', h1, ?_, h3, h5⟩
  unfold OV
  rw [List.length_append]
  exact h2
/-- What is known behind an append. -/
structure AppendedV (w w' : World) (base : Nat) (v : Value) (A : Option Addr) (n c : Nat) (vs : List Value) : Prop where
  own : OV w' base (.slice A n c) vs
  read : VR w' A vs
  len : n = vs.length
  le : n ≤ c
  le' : c ≤ 9223372036854775807
  grown : w.grownBy w' v.ownBlock
  at_ : (Value.slice A n c).ownBlock = v.ownBlock ∨ (Value.slice A n c).ownBlock = some w.heap.size
theorem AppendedV.below {w w' : World} {base n c : Nat} {v : Value} {A : Option Addr} {l l0 : List Value} (hap : AppendedV w w' base v A n c l) (hown : OV w base v l0) (hbase : base ≤ w.heap.size) : Below base w w' :=
  (Below.refl _ _).grown hap.grown hbase (fun k hk => (hown.lt k hk).1)
/-- 'append(s, x)', s the call's own. -/
theorem wpList_append_V1 {ops : Array Oper} {Q : Exit → Act → World → Prop} {a : Act} {w : World} {rest : List Oper} {o : Oper}
    (hw : Region.wanted o (yielded ops a.tmps) = true) (s x : Operand) (t : TypeId) (ht : Try.prog.underlying t = some (.slice 31)) (ho : o.op = .call { callee := .builtin .append, args := #[s, x], argTypes := #[t, t] })
    (base : Nat) (v : Value) (vs : List Value) (hs : a.eval s = v) (hown : OV w base v vs) (g : Nat) (u : Value) (c : Nat) (hx : a.eval x = .slice (some ⟨g, 0, none⟩) 1 c) (hu : u.oneCell' = true) (hr : w.cell? ⟨g, 0, none⟩ = some u)
    (hlen : (vs.length + 1) * 24 ≤ 140737488355328) (hbase : base ≤ w.heap.size) (k : Nat) (hk : k = vs.length + 1)
    (h : ∀ A' c' w', AppendedV w w' base v A' k c' (vs ++ [u]) → wpList Try.prog ops Q rest (a.put o.dst (.slice A' k c')) w') : wpList Try.prog ops Q (o :: rest) a w := by
  subst hk
  obtain ⟨v', w', h1, h2, h3, h4⟩ := run_append_V t o.type ht w base v vs hown ⟨g, 0, none⟩ [u] c (fun j y hy => by
    rcases j with _ | j
    · simp at hy; subst hy; exact hr
    · simp at hy) (fun y hy => by rw [List.mem_singleton] at hy; subst hy; exact hu) hlen hbase
  obtain ⟨A', c', rfl, hc, hc', hr'⟩ := h2.form
  have hl : (vs ++ [u]).length = vs.length + 1 := by simp
  rw [hl] at h1 h4 hc h2
  exact wpList_value hw (exec_builtin2 ho hs hx h1) (h A' c' w' ⟨h2, hr', hl.symm, hc, hc', h3, h4⟩)
/-- A guard for an arm. -/
theorem at_appendV {P : Program} {ops : Array Oper} {Q : Exit → Act → World → Prop} {a : Act} {w : World} {rest : List Oper} {d : Option Tmp} {s x : Operand} {t : TypeId} {p : String} {af : Array Edge} {g : Option (Nat × Bool)}
    (h : wpList P ops Q (⟨d, .call ⟨.builtin .append, #[s, x], #[30, 30]⟩, t, p, af, g⟩ :: rest) a w) : wpList P ops Q (⟨d, .call ⟨.builtin .append, #[s, x], #[30, 30]⟩, t, p, af, g⟩ :: rest) a w := h
theorem cell_one' (w : World) (v : Value) (t : TypeId) : (w.alloc (.cells #[v] t)).cell? ⟨w.heap.size, 0, none⟩ = some v := by simp
/-- An owned slice of slices of strings that reads as ls; its rows and its own row are blocks of N, and no row is its own. -/
structure Outs (w : World) (base : Nat) (N : Nat → Prop) (v : Value) (vs : List Value) (ls : List (List (List UInt8))) : Prop where
  own : OV w base v vs
  in_ : ∀ g, v.ownBlock = some g → N g
  rows : SVals w (fun g => N g ∧ v.ownBlock ≠ some g) vs ls
theorem Outs.nil (w : World) (base : Nat) (N : Nat → Prop) : Outs w base N (.slice none 0 0) [] [] := ⟨OV.nil _ _, fun g h => (by cases h), SVals.nil _ _⟩
theorem Outs.of {w w' : World} {base : Nat} {N N' : Nat → Prop} {v : Value} {vs : List Value} {ls : List (List (List UInt8))} (h : Outs w base N v vs ls) (hb : ∀ g, N g → g < w.heap.size → w'.heap[g]? = w.heap[g]? ∧ N' g) : Outs w' base N' v vs ls :=
  ⟨h.own.of_blocks fun g hg hl => (hb g (h.in_ g hg) hl).1, fun g hg => (hb g (h.in_ g hg) (h.own.lt g hg).2).2, h.rows.of (fun g hg hl => (hb g hg.1 hl).1) (fun g hg hl => ⟨(hb g hg.1 hl).2, hg.2⟩)⟩
/-- One row more: u lies in a block of N that is not v's own. -/
theorem Outs.push {w3 w4 : World} {base c0 c4 : Nat} {N N' : Nat → Prop} {A0 A4 : Option Addr} {vs : List Value} {ls : List (List (List UInt8))} {u : Value} {l : List (List UInt8)} {ty : TypeId} (h : Outs w3 base N (.slice A0 vs.length c0) vs ls)
    (hu : SVal w3 (fun g => N g ∧ (Value.slice A0 vs.length c0).ownBlock ≠ some g) u l) (hap : AppendedV (w3.alloc (.cells #[u] ty)) w4 base (.slice A0 vs.length c0) A4 (vs.length + 1) c4 (vs ++ [u])) (hN : ∀ g, g < w4.heap.size → N g ∨ w3.heap.size ≤ g → N' g) :
    Outs w4 base N' (.slice A4 (vs.length + 1) c4) (vs ++ [u]) (ls ++ [l]) := by
  have hsz : w3.heap.size < w4.heap.size := by have := hap.grown.size; rw [World.size_alloc] at this; omega
  have hb : ∀ g, (N g ∧ (Value.slice A0 vs.length c0).ownBlock ≠ some g) → g < w3.heap.size → w4.heap[g]? = w3.heap[g]? := fun g hg hl =>
    (hap.grown.block g (by rw [World.size_alloc]; omega) (Ne.symm hg.2)).trans (Below.heap_alloc w3 _ g hl)
  have hq : ∀ g, (N g ∧ (Value.slice A0 vs.length c0).ownBlock ≠ some g) → g < w3.heap.size → (N' g ∧ (Value.slice A4 (vs.length + 1) c4).ownBlock ≠ some g) := fun g hg hl => by
    refine ⟨hN g (by omega) (.inl hg.1), fun e => ?_⟩
    rcases hap.at_ with h | h
    · rw [h] at e; exact hg.2 e
    · rw [h, World.size_alloc] at e
      injection e with e
      omega
  refine ⟨hap.own, fun g hg => ?_, (h.rows.of hb hq).snoc (hu.of hb hq)⟩
  rcases hap.at_ with h1 | h1
  · rw [h1] at hg; exact hN g (by have := (h.own.lt g hg).2; omega) (.inl (h.in_ g hg))
  · have hl := (hap.own.lt g hg).2
    rw [h1, World.size_alloc] at hg
    injection hg with hg
    exact hN g hl (.inr (by omega))
end Go.Proofs.Ytaoedejenjfhoaa
