/- 'append([]byte(s), x...)': onto the new row that a conversion has made: what comes back reads as both. -/
import Derived.Test.YtilhgjcjofobeaaDoorZC2
import Derived.ArgAppend
namespace Go.Proofs.YtilhgjcjofobeaaDoor
open Go.RowKit

/-- A new row behind a conversion: its first cells read as l, all of its c cells may be written. -/
structure Raw (w : World) (g : Nat) (l : List UInt8) (c : Nat) : Prop where
  le : l.length ≤ c
  le' : c ≤ 9223372036854775807
  cell : ∀ i u, l[i]? = some u → w.cell? ⟨g, i, none⟩ = some (.int .u8 u.toNat)
  spare : ∀ i, i < c → (w.cell? ⟨g, i, none⟩).isSome = true ∧ w.frozen? ⟨g, i, none⟩ = false
theorem raw_of (w : World) (l : List UInt8) (hl : l.length ≤ 9223372036854775807) :
    Raw (w.drew.alloc (.cells (bytesRow ⟨l.toArray⟩ (grownCap w l.length 0 5)) 5 ((bytesRow ⟨l.toArray⟩ (grownCap w l.length 0 5)).size, (bytesRow ⟨l.toArray⟩ (grownCap w l.length 0 5)).size + 1))) w.heap.size l (grownCap w l.length 0 5) := by
  have hf := fresh_of w l hl
  refine ⟨hf.le, hf.le', fun i u hu => ?_, fun i hi => ?_⟩
  · have hi : i < l.length := by
      rcases Nat.lt_or_ge i l.length with h' | h'
      · exact h'
      · rw [List.getElem?_eq_none h'] at hu; cases hu
    have := hf.row.cell hi
    rw [Nat.zero_add, List.getD_eq_getElem?_getD, hu] at this
    exact this
  · have hx := World.cell?_alloc_mark w.drew (bytesRow ⟨l.toArray⟩ (grownCap w l.length 0 5)) 5 ((bytesRow ⟨l.toArray⟩ (grownCap w l.length 0 5)).size, (bytesRow ⟨l.toArray⟩ (grownCap w l.length 0 5)).size + 1) i
    have hy := World.frozen?_alloc_mark w.drew (bytesRow ⟨l.toArray⟩ (grownCap w l.length 0 5)) 5 (bytesRow ⟨l.toArray⟩ (grownCap w l.length 0 5)).size ((bytesRow ⟨l.toArray⟩ (grownCap w l.length 0 5)).size + 1) i
    rw [World.size_drew] at hx hy
    have hs := bytesRow_size l _ hf.le
    rw [hx, hy]
    refine ⟨?_, ?_⟩
    · rw [Array.getElem?_eq_getElem (by omega)]; rfl
    · rw [hs]; simp; omega
/-- '[]byte(s)', all that is known. -/
theorem wpList_toRaw {ops : Array Oper} {Q : Exit → Act → World → Prop} {a : Act} {w : World} {rest : List Oper} {o : Oper}
    (hw : Region.wanted o (yielded ops a.tmps) = true) (x : Operand) (ho : o.op = .convert 9 23 x) (l : List UInt8) (hx : a.eval x = .string ⟨l.toArray⟩) (hl : l.length ≤ 9223372036854775807)
    (h : ∀ c w1, Fresh w w1 l c → Raw w1 w.heap.size l c → wpList Tryd.prog ops Q rest (a.put o.dst (.slice (some ⟨w.heap.size, 0, none⟩) l.length c)) w1) : wpList Tryd.prog ops Q (o :: rest) a w :=
  wpList_value hw (exec_convert ho hx (run_bytes_of_string w 9 23 5 _ Tryd.underlying9 Tryd.underlying23 Tryd.underlying5)) (h _ _ (fresh_of w l hl) (raw_of w l hl))
theorem wpList_toRawN {ops : Array Oper} {Q : Exit → Act → World → Prop} {a : Act} {w : World} {rest : List Oper} {o : Oper}
    (hw : Region.wanted o (yielded ops a.tmps) = true) (x : Operand) (ho : o.op = .convert 9 23 x) (l : List UInt8) (hx : a.eval x = .string ⟨l.toArray⟩) (hl : l.length ≤ 9223372036854775807) (k : Nat) (hk : k = l.length)
    (h : ∀ c w1, Fresh w w1 l c → Raw w1 w.heap.size l c → wpList Tryd.prog ops Q rest (a.put o.dst (.slice (some ⟨w.heap.size, 0, none⟩) k c)) w1) : wpList Tryd.prog ops Q (o :: rest) a w := by
  subst hk
  exact wpList_toRaw hw x ho l hx hl h
/-- What is known behind the append. -/
structure Catted (w w' : World) (g : Nat) (A : Option Addr) (n c : Nat) (l : List UInt8) : Prop where
  read : RB w' A l
  len : n = l.length
  le : n ≤ c
  le' : c ≤ 9223372036854775807
  below : ∀ B, B ≤ g → B ≤ w.heap.size → Below B w w'
theorem Raw.rb {w : World} {g c : Nat} {l : List UInt8} (h : Raw w g l c) : RB w (some ⟨g, 0, none⟩) l := fun _ => ⟨g, 0, rfl, fun i u hu => by rw [Nat.zero_add]; exact h.cell i u hu⟩
theorem Below.setCells {B g : Nat} (hg : B ≤ g) : ∀ (vs : List Value) (o : Nat) {a w : World}, Below B a w → Below B a (w.setCells g o vs)
  | [], _, _, _, h => h
  | v :: r, o, _, _, h => Below.setCells hg r (o + 1) (h.setCell (p := ⟨g, o, none⟩) hg v)
set_option maxRecDepth 40000 in
theorem run_append_raw (ty : TypeId) (w : World) (g : Nat) (l : List UInt8) (c : Nat) (hraw : Raw w g l c) (A : Option Addr) (m : List UInt8) (cm : Nat) (hr : RB w A m) (hlen : l.length + m.length ≤ 140737488355328) :
    ∃ A' c' w', (Builtin.append_ #[23, 23] ty #[.slice (some ⟨g, 0, none⟩) l.length c, .slice A m.length cm]).run Tryd.prog w = .ok (.slice A' (l.length + m.length) c') w' ∧ Catted w w' g A' (l.length + m.length) c' (l ++ m) := by
  obtain ⟨i0, hi, hz0, hz1, hz2⟩ := info_parts Tryd.infoU
  have hle := hraw.le
  by_cases hm : m = []
  · subst hm
    refine ⟨some ⟨g, 0, none⟩, c, w, ?_, ?_⟩
    · rcases A with _ | ad
      · simp [Builtin.append_, run_underlying Tryd.underlying23, sizeOf, typeInfo, hi, Builtin.lenOf, Builtin.firstCells, hle, storeCells]
      · have := run_append_room_cells (P := Tryd.prog) w 23 ty 5 i0 Tryd.underlying23 hi g 0 l.length c ad 0 cm [] (by simp) (fun j u hu => by simp at hu) (fun u hu => by cases hu) (by omega) (fun j hj => absurd hj (by simp)) (fun j hj => absurd hj (by simp))
        simpa [World.setCells] using this
    · refine ⟨by rw [List.append_nil]; exact hraw.rb, by simp, by simpa using hle, hraw.le', fun B _ _ => Below.refl _ _⟩
  · obtain ⟨g2, o2, rfl, hx⟩ := hr hm
    have hnews : ∀ j u, (bts m)[j]? = some u → w.cell? ((Addr.mk g2 o2 none).add j) = some u := by
      intro j u hu
      rw [bts_get] at hu
      rcases hj : m[j]? with _ | b
      · rw [hj] at hu; cases hu
      · rw [hj] at hu
        injection hu with hu
        subst hu
        have ha : (Addr.mk g2 o2 none).add j = ⟨g2, o2 + j, none⟩ := by
          unfold Addr.add
          split
          · rename_i h0; subst h0; rfl
          · rfl
        rw [ha]
        exact hx j b hj
    by_cases hroom : l.length + m.length ≤ c
    · have hrun := run_append_room_cells (P := Tryd.prog) w 23 ty 5 i0 Tryd.underlying23 hi g 0 l.length c ⟨g2, o2, none⟩ m.length cm (bts m) (by rw [bts_length, hz1, Nat.mul_one]) hnews (bts_one m) hroom
        (fun j hj => by rw [bts_length] at hj; rw [hz1, Nat.mul_one, Nat.zero_add]; exact (hraw.spare _ (by omega)).1) (fun j hj => by rw [bts_length] at hj; rw [hz1, Nat.mul_one, Nat.zero_add]; exact (hraw.spare _ (by omega)).2)
      rw [hz1, Nat.mul_one, Nat.zero_add] at hrun
      refine ⟨some ⟨g, 0, none⟩, c, _, hrun, ⟨?_, by simp, hroom, hraw.le', fun B hB _ => Below.setCells hB _ _ (Below.refl _ _)⟩⟩
      intro _
      refine ⟨g, 0, rfl, fun i u hu => ?_⟩
      rw [Nat.zero_add]
      by_cases h1 : i < l.length
      · rw [List.getElem?_append_left h1] at hu
        rw [World.cell?_setCells_out g (bts m) l.length w ⟨g, i, none⟩ (fun _ _ => .inl h1)]
        exact hraw.cell i u hu
      · rw [List.getElem?_append_right (by omega)] at hu
        have hlt : i - l.length < m.length := by
          rcases Nat.lt_or_ge (i - l.length) m.length with h' | h'
          · exact h'
          · rw [List.getElem?_eq_none h'] at hu; cases hu
        have hc := World.cell?_setCells_in g (bts m) l.length w (fun j hj => by rw [bts_length] at hj; exact (hraw.spare _ (by omega)).1) (i - l.length) (by rw [bts_length]; omega)
        rw [show l.length + (i - l.length) = i by omega] at hc
        rw [hc, ← List.getElem?_eq_getElem, bts_get, hu]
        rfl
    · obtain ⟨v', w', hrun, hown, hgrow⟩ := run_append_arg_grows (P := Tryd.prog) w 23 ty 5 i0 (.int .u8 0) 1 1 Tryd.underlying23 hi hz0 hz1 hz2 rfl (by decide) ⟨g, 0, none⟩ l.length c (bts l) (by rw [bts_length]; omega)
        (fun j u hu => by
          rw [bts_get] at hu
          rcases hj : l[j]? with _ | b
          · rw [hj] at hu; cases hu
          · rw [hj] at hu
            injection hu with hu
            subst hu
            have ha : (Addr.mk g 0 none).add j = ⟨g, j, none⟩ := by
              unfold Addr.add
              split
              · rename_i h0; subst h0; rfl
              · simp
            rw [ha]
            exact hraw.cell j b hj)
        ⟨g2, o2, none⟩ m.length cm (bts m) (by rw [bts_length]; omega) hnews (by omega) (by unfold maxLen; omega) (by omega)
      have hob : OB w' w.heap.size v' (l ++ m) := by
        unfold OB
        rw [bts_append, List.length_append]
        exact hown
      obtain ⟨A', c', rfl, hc, hc', hr'⟩ := hob.form
      rw [List.length_append] at hrun hc
      exact ⟨A', c', w', hrun, hr', by simp, hc, hc', fun B _ hB => (Below.refl _ _).grown hgrow hB (fun k hk => by cases hk)⟩
theorem wpList_append_raw {ops : Array Oper} {Q : Exit → Act → World → Prop} {a : Act} {w : World} {rest : List Oper} {o : Oper}
    (hw : Region.wanted o (yielded ops a.tmps) = true) (s x : Operand) (ho : o.op = .call { callee := .builtin .append, args := #[s, x], argTypes := #[23, 23] })
    (g : Nat) (l : List UInt8) (n0 c : Nat) (hn0 : n0 = l.length) (hs : a.eval s = .slice (some ⟨g, 0, none⟩) n0 c) (hraw : Raw w g l c) (A : Option Addr) (m : List UInt8) (n cm : Nat) (hx : a.eval x = .slice A n cm) (hn : n = m.length) (hr : RB w A m)
    (hlen : l.length + m.length ≤ 140737488355328) (k : Nat) (hk : k = l.length + m.length)
    (h : ∀ A' c' w', Catted w w' g A' k c' (l ++ m) → wpList Tryd.prog ops Q rest (a.put o.dst (.slice A' k c')) w') : wpList Tryd.prog ops Q (o :: rest) a w := by
  subst hn hk hn0
  obtain ⟨A', c', w', h1, h2⟩ := run_append_raw o.type w g l c hraw A m cm hr hlen
  exact wpList_value hw (exec_builtin2 ho hs hx h1) (h A' c' w' h2)
end Go.Proofs.YtilhgjcjofobeaaDoor
