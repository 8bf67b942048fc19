/- Slices of bytes that the call itself owns, and appends onto them: from a slice that reads as a list (nil let in), from a string. -/
import Derived.Test.YtaoedejenjfhoaaConv
import Derived.Maps.AppendAt
import Derived.Lib.AppendStr
namespace Go.Proofs.Ytaoedejenjfhoaa
open Go.RowKit

def bts (l : List UInt8) : List Value := l.map (fun b => Value.int .u8 b.toNat)
theorem bts_length (l : List UInt8) : (bts l).length = l.length := by simp [bts]
theorem bts_append (a b : List UInt8) : bts (a ++ b) = bts a ++ bts b := by simp [bts]
theorem bts_get (l : List UInt8) (i : Nat) : (bts l)[i]? = l[i]?.map (fun b => Value.int .u8 b.toNat) := by simp [bts]
theorem bts_one (l : List UInt8) : ∀ u ∈ bts l, u.oneCell' = true := by
  intro u hu
  obtain ⟨b, _, rfl⟩ := List.mem_map.1 hu
  rfl
theorem Try.infoU : (Try.prog.info? 5).map (fun i => (i.zero, i.size, i.bytes)) = some (some (.int .u8 0), 1, 1) := by kernel_rfl

/-- The slice v is the call's own (its row lies from block base on) and reads as l. -/
def OB (w : World) (base : Nat) (v : Value) (l : List UInt8) : Prop := w.ownsRow base 5 1 v l.length (bts l)
theorem OB.nil (w : World) (base : Nat) : OB w base (.slice none 0 0) [] := World.ownsRow_nil _ _ _ _
theorem OB.lit (w : World) (base : Nat) (h : base ≤ w.heap.size) : OB (w.alloc (.cells #[] 5)) base (.slice (some ⟨w.heap.size, 0, none⟩) 0 0) [] :=
  World.ownsRow_lit (e := 5) (size := 1) w #[] 0 h (by decide) rfl
theorem OB.lit' {w : World} {base g : Nat} (hg : g = w.heap.size) (h : base ≤ w.heap.size) : OB (w.alloc (.cells #[] 5)) base (.slice (some ⟨g, 0, none⟩) 0 0) [] := by subst hg; exact OB.lit w base h
theorem OB.alloc {w : World} {base : Nat} {v : Value} {l : List UInt8} (h : OB w base v l) (o : Obj) : OB (w.alloc o) base v l := World.ownsRow.alloc h o
theorem OB.drew {w : World} {base : Nat} {v : Value} {l : List UInt8} (h : OB w base v l) : OB w.drew base v l := h
theorem OB.kept {w w' : World} {base : Nat} {v : Value} {l : List UInt8} {row : Option Nat} (h : OB w base v l) (hg : w.grownBy w' row) (hne : v.ownBlock = none ∨ v.ownBlock ≠ row) : OB w' base v l := World.ownsRow.kept h hg hne
theorem OB.form {w : World} {base : Nat} {v : Value} {l : List UInt8} (h : OB w base v l) : ∃ A c, v = .slice A l.length c ∧ l.length ≤ c ∧ c ≤ 9223372036854775807 ∧ RB w A l := by
  obtain ⟨h1, h2⟩ := h
  rcases h2 with ⟨rfl, h0⟩ | ⟨g, cap, cur, rfl, hb, hg, hn, hm, hs, ht⟩
  · have : l = [] := List.eq_nil_of_length_eq_zero h0
    subst this
    exact ⟨none, 0, rfl, Nat.le_refl _, by decide, RB.nil _ _⟩
  · refine ⟨some ⟨g, 0, none⟩, cap, rfl, hn, by unfold maxLen at hm; omega, fun _ => ⟨g, 0, rfl, fun i u hu => ?_⟩⟩
    rw [Nat.zero_add, cell_of_row w g i cur 5 (0, 0) hg]
    have hx : (cur.toList.take (l.length * 1))[i]? = (bts l)[i]? := by rw [ht]
    have hi : i < l.length := by
      rcases Nat.lt_or_ge i l.length with h' | h'
      · exact h'
      · rw [List.getElem?_eq_none h'] at hu; cases hu
    rw [List.getElem?_take, if_pos (by omega), bts_get, hu] at hx
    simpa using hx
theorem OB.lt {w : World} {base : Nat} {v : Value} {l : List UInt8} (h : OB w base v l) : ∀ k, v.ownBlock = some k → base ≤ k ∧ k < w.heap.size := World.ownsRow.lt h
theorem OB.below {w w' : World} {base B : Nat} {v : Value} {l : List UInt8} (h : OB w base v l) (hb : Below B w w') (hlt : ∀ k, v.ownBlock = some k → k < B) : OB w' base v l := by
  obtain ⟨h1, h2⟩ := h
  refine ⟨h1, ?_⟩
  rcases h2 with ⟨rfl, h0⟩ | ⟨g, cap, cur, rfl, hbg, hg, r⟩
  · exact .inl ⟨rfl, h0⟩
  · exact .inr ⟨g, cap, cur, rfl, hbg, by rw [hb.block g (hlt g rfl)]; exact hg, r⟩

theorem exec_builtin2 {P : Program} {o : Oper} {a : Act} {w w' : World} {s x : Operand} {t u : TypeId} {v v' y : Value} (ho : o.op = .call { callee := .builtin .append, args := #[s, x], argTypes := #[t, u] })
    (hs : a.eval s = v) (hx : a.eval x = y) (hr : (Builtin.append_ #[t, u] o.type #[v, y]).run P w = .ok v' w') : (execOp a.eval o).run P w = .ok (.value v') w' := by
  unfold execOp
  simp only [ho, resolve, invoke, builtin, Sem.run_bind, Sem.run_pure, Result.andThen_ok, List.map_toArray, List.map_cons, List.map_nil, hs, hx, hr]

set_option maxRecDepth 40000 in
theorem run_append_B (ty : TypeId) (w : World) (base : Nat) (v : Value) (l : List UInt8) (hown : OB w base v l) (A : Option Addr) (m : List UInt8) (c : Nat) (hr : RB w A m)
    (hlen : l.length + m.length ≤ 140737488355328) (hbase : base ≤ w.heap.size) :
    ∃ v' w', (Builtin.append_ #[24, 24] ty #[v, .slice A m.length c]).run Try.prog w = .ok v' w' ∧ OB w' base v' (l ++ m) ∧ w.grownBy w' v.ownBlock ∧ (v'.ownBlock = v.ownBlock ∨ v'.ownBlock = some w.heap.size) := by
  obtain ⟨i0, hi, hz0, hz1, hz2⟩ := info_parts Try.infoU
  rcases A with _ | ad
  · have hm : m = [] := by
      rcases m with _ | ⟨b, t⟩
      · rfl
      · obtain ⟨g, o, h, _⟩ := hr (by simp); cases h
    subst hm
    refine ⟨v, w, ?_, by rw [List.append_nil]; exact hown, World.grownBy.refl w _, .inl rfl⟩
    rcases hown.2 with ⟨rfl, _⟩ | ⟨g, cap, cur, rfl, _, _, hnc, _⟩
    · simp [Builtin.append_, run_underlying Try.underlying24, sizeOf, typeInfo, hi, Builtin.lenOf, Builtin.firstCells]
    · simp [Builtin.append_, run_underlying Try.underlying24, sizeOf, typeInfo, hi, Builtin.lenOf, Builtin.firstCells, hnc, storeCells]
  · have hcells : ∀ j u, (bts m)[j]? = some u → w.cell? (ad.add j) = some u := by
      intro j u hu
      rw [bts_get] at hu
      rcases hj : m[j]? with _ | b
      · rw [hj] at hu; cases hu
      · have hne : m ≠ [] := by rintro rfl; simp at hj
        obtain ⟨g, o, he, hc⟩ := hr hne
        injection he with he; subst he
        rw [hj] at hu
        injection hu with hu; subst hu
        have h := hc j b hj
        have ha : (Addr.mk g o none).add j = ⟨g, o + j, none⟩ := by
          unfold Addr.add
          split
          · rename_i h0; subst h0; rfl
          · rfl
        rw [ha]; exact h
    obtain ⟨v', w', h1, h2, h3, _, h5⟩ := run_append_own_at (P := Try.prog) w base 24 ty 5 i0 (.int .u8 0) 1 1 Try.underlying24 hi hz0 hz1 hz2 rfl (by decide) v l.length (bts l) hown ad m.length c (bts m) (by rw [bts_length]; omega)
      hcells (bts_one m) (by unfold maxLen; omega) (by omega) hbase
    refine ⟨v', w', h1, ?_, h3, h5⟩
    unfold OB
    rw [bts_append, List.length_append]
    exact h2

/-- What is known behind an append of bytes. -/
structure Appended (w w' : World) (base : Nat) (v : Value) (A : Option Addr) (n c : Nat) (l : List UInt8) : Prop where
  own : OB w' base (.slice A n c) l
  read : RB w' A l
  len : n = l.length
  le : n ≤ c
  le' : c ≤ 9223372036854775807
  grown : w.grownBy w' v.ownBlock
  at_ : (Value.slice A n c).ownBlock = v.ownBlock ∨ (Value.slice A n c).ownBlock = some w.heap.size

/-- 'append(s, x...)', s the call's own. -/
theorem wpList_append_B {ops : Array Oper} {Q : Exit → Act → World → Prop} {a : Act} {w : World} {rest : List Oper} {o : Oper}
    (hw : Region.wanted o (yielded ops a.tmps) = true) (s x : Operand) (ho : o.op = .call { callee := .builtin .append, args := #[s, x], argTypes := #[24, 24] })
    (base : Nat) (v : Value) (l : List UInt8) (hs : a.eval s = v) (hown : OB w base v l) (A : Option Addr) (m : List UInt8) (n c : Nat) (hx : a.eval x = .slice A n c) (hn : n = m.length) (hr : RB w A m)
    (hlen : l.length + m.length ≤ 140737488355328) (hbase : base ≤ w.heap.size) (k : Nat) (hk : k = l.length + n) (lm : List UInt8) (hlm : lm = l ++ m)
    (h : ∀ A' c' w', Appended w w' base v A' k c' lm → wpList Try.prog ops Q rest (a.put o.dst (.slice A' k c')) w') : wpList Try.prog ops Q (o :: rest) a w := by
  subst hn hk hlm
  obtain ⟨v', w', h1, h2, h3, h4⟩ := run_append_B o.type w base v l hown A m c hr hlen hbase
  obtain ⟨A', c', rfl, hc, hc', hr'⟩ := h2.form
  rw [List.length_append] at h1 h2 h4 hc
  exact wpList_value hw (exec_builtin2 ho hs hx h1) (h A' c' w' ⟨h2, hr', by rw [List.length_append], hc, hc', h3, h4⟩)
/-- A guard for an arm: the next operation is an append of bytes. -/
theorem at_appendB {P : Program} {ops : Array Oper} {Q : Exit → Act → World → Prop} {a : Act} {w : World} {rest : List Oper} {d : Option Tmp} {s x : Operand} {t : TypeId} {p : String} {af : Array Edge} {g : Option (Nat × Bool)}
    (h : wpList P ops Q (⟨d, .call ⟨.builtin .append, #[s, x], #[24, 24]⟩, t, p, af, g⟩ :: rest) a w) : wpList P ops Q (⟨d, .call ⟨.builtin .append, #[s, x], #[24, 24]⟩, t, p, af, g⟩ :: rest) a w := h

theorem RB.of_row {w : World} {g o n : Nat} {l : List UInt8} (hn : l.length ≤ n) (h : Row w g o n (fun i => (l.getD i 0).toNat)) : RB w (some ⟨g, o, none⟩) l := by
  intro _
  refine ⟨g, o, rfl, fun i u hu => ?_⟩
  have hi : i < l.length := by
    rcases Nat.lt_or_ge i l.length with h' | h'
    · exact h'
    · rw [List.getElem?_eq_none h'] at hu; cases hu
  have := h.cell (i := i) (by omega)
  rw [List.getD_eq_getElem?_getD, hu] at this
  exact this
theorem run_toStringR {w : World} {A : Option Addr} {n c : Nat} {l : List UInt8} (hn : n = l.length) (hr : RB w A l) :
    (convert 24 9 (.slice A n c)).run Try.prog w = .ok (.string ⟨l.toArray⟩) w := by
  subst hn
  rcases hl : l with _ | ⟨b, t⟩
  · exact run_toString_nil
  · rw [← hl]
    obtain ⟨g, o, rfl, hx⟩ := hr (by rw [hl]; simp)
    refine run_convert_bytes_back w 24 9 5 ⟨g, o, none⟩ c l Try.underlying24 Try.underlying5 Try.underlying9 (fun j hj => ?_)
    have ha : (Addr.mk g o none).add j = ⟨g, o + j, none⟩ := by
      unfold Addr.add
      split
      · rename_i h0; subst h0; rfl
      · rfl
    rw [ha]
    exact hx j l[j] (List.getElem?_eq_getElem hj)
/-- 'string(b)'. -/
theorem wpList_toString {ops : Array Oper} {Q : Exit → Act → World → Prop} {a : Act} {w : World} {rest : List Oper} {o : Oper}
    (hw : Region.wanted o (yielded ops a.tmps) = true) (x : Operand) (ho : o.op = .convert 24 9 x) (A : Option Addr) (n c : Nat) (l : List UInt8) (hx : a.eval x = .slice A n c) (hn : n = l.length) (hr : RB w A l)
    (h : wpList Try.prog ops Q rest (a.put o.dst (.string ⟨l.toArray⟩)) w) : wpList Try.prog ops Q (o :: rest) a w :=
  wpList_value hw (exec_convert ho hx (run_toStringR hn hr)) h
/-- A guard for an arm: the next operation is 'string(b)'. -/
theorem at_toString {P : Program} {ops : Array Oper} {Q : Exit → Act → World → Prop} {a : Act} {w : World} {rest : List Oper} {d : Option Tmp} {x : Operand} {t : TypeId} {p : String} {af : Array Edge} {g : Option (Nat × Bool)}
    (h : wpList P ops Q (⟨d, .convert 24 9 x, t, p, af, g⟩ :: rest) a w) : wpList P ops Q (⟨d, .convert 24 9 x, t, p, af, g⟩ :: rest) a w := h
end Go.Proofs.Ytaoedejenjfhoaa
