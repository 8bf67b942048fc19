/- Slices of strings: read, and owned (the laws of Strs and Own that name no function). -/
import Derived.Test.YtaoedejenjfhoaaMem
namespace Go.Proofs.Ytaoedejenjfhoaa
open Go.RowKit

/-- A slice's address under which the strings ls lie (of an empty slice nothing is said). -/
def SL (w : World) (A : Option Addr) (ls : List (List UInt8)) : Prop :=
  ls ≠ [] → ∃ g o, A = some ⟨g, o, none⟩ ∧ ∀ i s, ls[i]? = some s → w.cell? ⟨g, o + i, none⟩ = some (.string ⟨s.toArray⟩)
theorem SL.nil (w : World) (A : Option Addr) : SL w A [] := fun h => absurd rfl h
theorem SL.lt {w : World} {A : Option Addr} {ls : List (List UInt8)} (h : SL w A ls) : ∀ g o, A = some ⟨g, o, none⟩ → ls ≠ [] → g < w.heap.size := by
  intro g o e hne
  obtain ⟨g', o', he, hx⟩ := h hne
  rw [e] at he; injection he with he; injection he with h1 h2; subst h1; subst h2
  rcases ls with _ | ⟨s, t⟩
  · exact absurd rfl hne
  · exact World.block_lt_of_cell? _ _ (hx 0 s rfl)
theorem SL.below {w w' : World} {A : Option Addr} {ls : List (List UInt8)} (h : SL w A ls) (hb : Below w.heap.size w w') : SL w' A ls := by
  intro hne
  obtain ⟨g, o, he, hx⟩ := h hne
  have hlt := h.lt g o he hne
  exact ⟨g, o, he, fun i s hs => (hb.cell (p := ⟨g, o + i, none⟩) hlt).trans (hx i s hs)⟩
theorem SL.one (w : World) (s : List UInt8) (t : TypeId) : SL (w.alloc (.cells #[.string ⟨s.toArray⟩] t)) (some ⟨w.heap.size, 0, none⟩) [s] := by
  intro _
  refine ⟨_, _, rfl, fun i u hu => ?_⟩
  rcases i with _ | i
  · simp at hu; subst hu; simp
  · simp at hu
theorem SL.one' (w : World) (s : List UInt8) (t : TypeId) (g : Nat) (hg : g = w.heap.size) : SL (w.alloc (.cells #[.string ⟨s.toArray⟩] t)) (some ⟨g, 0, none⟩) [s] := by subst hg; exact SL.one w s t
def sts (l : List (List UInt8)) : List Value := l.map (fun b => Value.string ⟨b.toArray⟩)
theorem sts_length (l : List (List UInt8)) : (sts l).length = l.length := by simp [sts]
theorem sts_append (a b : List (List UInt8)) : sts (a ++ b) = sts a ++ sts b := by simp [sts]
theorem sts_get (l : List (List UInt8)) (i : Nat) : (sts l)[i]? = l[i]?.map (fun b => Value.string ⟨b.toArray⟩) := by simp [sts]
theorem sts_one (l : List (List UInt8)) : ∀ u ∈ sts l, u.oneCell' = true := by
  intro u hu
  obtain ⟨b, _, rfl⟩ := List.mem_map.1 hu
  rfl
theorem Try.infoS : (Try.prog.info? 9).map (fun i => (i.zero, i.size, i.bytes)) = some (some (.string ⟨#[]⟩), 1, 16) := by kernel_rfl
/-- The slice v is the call's own (its row lies from block base on) and reads as l. -/
def OS (w : World) (base : Nat) (v : Value) (l : List (List UInt8)) : Prop := w.ownsRow base 9 1 v l.length (sts l)
theorem OS.nil (w : World) (base : Nat) : OS w base (.slice none 0 0) [] := World.ownsRow_nil _ _ _ _
theorem OS.alloc {w : World} {base : Nat} {v : Value} {l : List (List UInt8)} (h : OS w base v l) (o : Obj) : OS (w.alloc o) base v l := World.ownsRow.alloc h o
theorem OS.lt {w : World} {base : Nat} {v : Value} {l : List (List UInt8)} (h : OS w base v l) : ∀ k, v.ownBlock = some k → base ≤ k ∧ k < w.heap.size := World.ownsRow.lt h
theorem OS.form {w : World} {base : Nat} {v : Value} {l : List (List UInt8)} (h : OS w base v l) : ∃ A c, v = .slice A l.length c ∧ l.length ≤ c ∧ c ≤ 9223372036854775807 ∧ SL w A l := by
  obtain ⟨h1, h2⟩ := h
  rcases h2 with ⟨rfl, h0⟩ | ⟨g, cap, cur, rfl, hb, hg, hn, hm, hs, ht⟩
  · have : l = [] := List.eq_nil_of_length_eq_zero h0
    subst this
    exact ⟨none, 0, rfl, Nat.le_refl _, by decide, SL.nil _ _⟩
  · refine ⟨some ⟨g, 0, none⟩, cap, rfl, hn, by unfold maxLen at hm; omega, fun _ => ⟨g, 0, rfl, fun i u hu => ?_⟩⟩
    rw [Nat.zero_add, cell_of_row w g i cur 9 (0, 0) hg]
    have hx : (cur.toList.take (l.length * 1))[i]? = (sts l)[i]? := by rw [ht]
    have hi : i < l.length := by
      rcases Nat.lt_or_ge i l.length with h' | h'
      · exact h'
      · rw [List.getElem?_eq_none h'] at hu; cases hu
    rw [List.getElem?_take, if_pos (by omega), sts_get, hu] at hx
    simpa using hx
theorem OS.of_blocks {w w' : World} {base : Nat} {v : Value} {l : List (List UInt8)} (h : OS w base v l) (hb : ∀ k, v.ownBlock = some k → k < w.heap.size → w'.heap[k]? = w.heap[k]?) : OS w' base v l := by
  have hlt := h.lt
  obtain ⟨h1, h2⟩ := h
  refine ⟨h1, ?_⟩
  rcases h2 with ⟨rfl, h0⟩ | ⟨g, cap, cur, rfl, hbg, hg, r⟩
  · exact .inl ⟨rfl, h0⟩
  · exact .inr ⟨g, cap, cur, rfl, hbg, by rw [hb g rfl (hlt g rfl).2]; exact hg, r⟩
theorem OS.below {w w' : World} {base : Nat} {v : Value} {l : List (List UInt8)} (h : OS w base v l) (hb : Below w.heap.size w w') : OS w' base v l := h.of_blocks fun k _ hk => hb.block k hk

set_option maxRecDepth 40000 in
theorem run_append_S (t ty : TypeId) (ht : Try.prog.underlying t = some (.slice 9)) (w : World) (base : Nat) (v : Value) (l : List (List UInt8)) (hown : OS w base v l) (A : Option Addr) (m : List (List UInt8)) (c : Nat) (hr : SL w A m)
    (hlen : (l.length + m.length) * 16 ≤ 140737488355328) (hbase : base ≤ w.heap.size) :
    ∃ v' w', (Builtin.append_ #[t, t] ty #[v, .slice A m.length c]).run Try.prog w = .ok v' w' ∧ OS w' base v' (l ++ m) ∧ w.grownBy w' v.ownBlock ∧ (v'.ownBlock = v.ownBlock ∨ v'.ownBlock = some w.heap.size) := by
  obtain ⟨i0, hi, hz0, hz1, hz2⟩ := info_parts Try.infoS
  rcases A with _ | ad
  · have hm : m = [] := by
      rcases m with _ | ⟨b, t⟩
      · rfl
      · obtain ⟨g, o, h, _⟩ := hr (by simp); cases h
    subst hm
    refine ⟨v, w, ?_, by rw [List.append_nil]; exact hown, World.grownBy.refl w _, .inl rfl⟩
    rcases hown.2 with ⟨rfl, _⟩ | ⟨g, cap, cur, rfl, _, _, hnc, _⟩
    · simp [Builtin.append_, run_underlying ht, sizeOf, typeInfo, hi, Builtin.lenOf, Builtin.firstCells]
    · simp [Builtin.append_, run_underlying ht, sizeOf, typeInfo, hi, Builtin.lenOf, Builtin.firstCells, hnc, storeCells]
  · have hcells : ∀ j u, (sts m)[j]? = some u → w.cell? (ad.add j) = some u := by
      intro j u hu
      rw [sts_get] at hu
      rcases hj : m[j]? with _ | b
      · rw [hj] at hu; cases hu
      · have hne : m ≠ [] := by rintro rfl; simp at hj
        obtain ⟨g, o, he, hc⟩ := hr hne
        injection he with he; subst he
        rw [hj] at hu
        injection hu with hu; subst hu
        have h := hc j b hj
        have ha : (Addr.mk g o none).add j = ⟨g, o + j, none⟩ := by
          unfold Addr.add
          split
          · rename_i h0; subst h0; rfl
          · rfl
        rw [ha]; exact h
    obtain ⟨v', w', h1, h2, h3, _, h5⟩ := run_append_own_at (P := Try.prog) w base t ty 9 i0 (.string ⟨#[]⟩) 1 16 ht hi hz0 hz1 hz2 rfl (by decide) v l.length (sts l) hown ad m.length c (sts m) (by rw [sts_length]; omega)
      hcells (sts_one m) (by unfold maxLen; omega) (by omega) hbase
    refine ⟨v', w', h1, ?_, h3, h5⟩
    unfold OS
    rw [sts_append, List.length_append]
    exact h2
/-- What is known behind an append of strings. -/
structure AppendedS (w w' : World) (base : Nat) (v : Value) (A : Option Addr) (n c : Nat) (l : List (List UInt8)) : Prop where
  own : OS w' base (.slice A n c) l
  read : SL w' A l
  len : n = l.length
  le : n ≤ c
  le' : c ≤ 9223372036854775807
  grown : w.grownBy w' v.ownBlock
  at_ : (Value.slice A n c).ownBlock = v.ownBlock ∨ (Value.slice A n c).ownBlock = some w.heap.size
theorem AppendedS.below {w w' : World} {base n c : Nat} {v : Value} {A : Option Addr} {l l0 : List (List UInt8)} (hap : AppendedS w w' base v A n c l) (hown : OS w base v l0) (hbase : base ≤ w.heap.size) : Below base w w' :=
  (Below.refl _ _).grown hap.grown hbase (fun k hk => (hown.lt k hk).1)
theorem wpList_append_S {ops : Array Oper} {Q : Exit → Act → World → Prop} {a : Act} {w : World} {rest : List Oper} {o : Oper}
    (hw : Region.wanted o (yielded ops a.tmps) = true) (s x : Operand) (t : TypeId) (ht : Try.prog.underlying t = some (.slice 9)) (ho : o.op = .call { callee := .builtin .append, args := #[s, x], argTypes := #[t, t] })
    (base : Nat) (v : Value) (l : List (List UInt8)) (hs : a.eval s = v) (hown : OS w base v l) (A : Option Addr) (m : List (List UInt8)) (n c : Nat) (hx : a.eval x = .slice A n c) (hn : n = m.length) (hr : SL w A m)
    (hlen : (l.length + m.length) * 16 ≤ 140737488355328) (hbase : base ≤ w.heap.size) (k : Nat) (hk : k = l.length + n) (lm : List (List UInt8)) (hlm : lm = l ++ m)
    (h : ∀ A' c' w', AppendedS w w' base v A' k c' lm → wpList Try.prog ops Q rest (a.put o.dst (.slice A' k c')) w') : wpList Try.prog ops Q (o :: rest) a w := by
  subst hn hk hlm
  obtain ⟨v', w', h1, h2, h3, h4⟩ := run_append_S t o.type ht w base v l hown A m c hr hlen hbase
  obtain ⟨A', c', rfl, hc, hc', hr'⟩ := h2.form
  rw [List.length_append] at h1 h2 h4 hc
  exact wpList_value hw (exec_builtin2 ho hs hx h1) (h A' c' w' ⟨h2, hr', by rw [List.length_append], hc, hc', h3, h4⟩)
/-- A guard for an arm: the next operation is an append of this type. -/
theorem at_append2 {P : Program} {ops : Array Oper} {Q : Exit → Act → World → Prop} {a : Act} {w : World} {rest : List Oper} {d : Option Tmp} {s x : Operand} {t t1 : TypeId} {p : String} {af : Array Edge} {g : Option (Nat × Bool)}
    (h : wpList P ops Q (⟨d, .call ⟨.builtin .append, #[s, x], #[t1, t1]⟩, t, p, af, g⟩ :: rest) a w) : wpList P ops Q (⟨d, .call ⟨.builtin .append, #[s, x], #[t1, t1]⟩, t, p, af, g⟩ :: rest) a w := h
theorem at_appendS {P : Program} {ops : Array Oper} {Q : Exit → Act → World → Prop} {a : Act} {w : World} {rest : List Oper} {d : Option Tmp} {s x : Operand} {t : TypeId} {p : String} {af : Array Edge} {g : Option (Nat × Bool)}
    (h : wpList P ops Q (⟨d, .call ⟨.builtin .append, #[s, x], #[31, 31]⟩, t, p, af, g⟩ :: rest) a w) : wpList P ops Q (⟨d, .call ⟨.builtin .append, #[s, x], #[31, 31]⟩, t, p, af, g⟩ :: rest) a w := h
end Go.Proofs.Ytaoedejenjfhoaa
