/- 'append([]byte(nil), make([]byte, n)...)': a new row of zeros, as long as the tape says. -/
import Derived.Test.YteiiocibldpioaaDoorRdM
import Derived.Lib.AppendZeros
namespace Go.Proofs.YteiiocibldpioaaDoor
open Go.RowKit

/-- A new row of c zero bytes in block w.heap.size. -/
structure ZRow (w w' : World) (n c : Nat) : Prop where
  le : n ≤ c
  le' : c ≤ 9223372036854775807
  row : RowB w' w.heap.size c (List.replicate c 0)
  own : OB w' w.heap.size (.slice (some ⟨w.heap.size, 0, none⟩) 0 c) []
  below : Below w.heap.size w w'
  size : w'.heap.size = w.heap.size + 1
theorem wpList_zeros {ops : Array Oper} {Q : Exit → Act → World → Prop} {a : Act} {w : World} {rest : List Oper} {o : Oper}
    (hgd : o.guard = none) (s x : Operand) (ho : o.op = .call { callee := .builtin .append, args := #[s, x], argTypes := #[24, 3] }) (n : Nat) (hs : a.eval s = .slice none 0 0) (hx : a.eval x = .int .i64 n) (h0 : 0 < n) (hn : n ≤ 140737488355328)
    (h : ∀ c w', ZRow w w' n c → wpList Tryd.prog ops Q rest (a.put o.dst (.slice (some ⟨w.heap.size, 0, none⟩) n c)) w') : wpList Tryd.prog ops Q (o :: rest) a w := by
  obtain ⟨i0, hi, hz0, hz1, hz2⟩ := info_parts Tryd.infoU
  have hr := Lib.run_append_nil_zeros (P := Tryd.prog) w 24 3 o.type 5 i0 (.int .u8 0) .i64 .i64 Tryd.underlying24 Tryd.underlying3 hi hz0 n h0 (by omega) (by omega) (by rw [hz2]; omega)
  refine Lib.wpList_append_run w hgd s x 24 3 ho _ _ hs hx _ _ hr (h _ _ ?_)
  have hge := grownCap_ge w n 0 5
  have hcm := grownCap_le_maxLen w n 0 5 (by unfold maxLen; omega)
  have hcs : (Builtin.zeroCells (Value.int .u8 0).cells n ++ Builtin.zeroCells (Value.int .u8 0).cells (grownCap w n 0 5 - n)).size = grownCap w n 0 5 := by
    have hz : (Value.int IntKind.u8 0).cells.size = 1 := rfl
    rw [Array.size_append, size_zeroCells, size_zeroCells, hz]; omega
  have hget : ∀ i, i < grownCap w n 0 5 → (Builtin.zeroCells (Value.int .u8 0).cells n ++ Builtin.zeroCells (Value.int .u8 0).cells (grownCap w n 0 5 - n))[i]? = some (.int .u8 0) := by
    intro i hi
    have h1 : ∀ m j, j < m → (Builtin.zeroCells (Value.int .u8 0).cells m)[j]? = some (.int .u8 0) := fun m j hj => by simp [Builtin.zeroCells, Value.cells, hj, Nat.mod_one]
    have hz : (Builtin.zeroCells (Value.int IntKind.u8 0).cells n).size = n := by rw [size_zeroCells]; exact Nat.mul_one n
    by_cases hlt : i < n
    · rw [Array.getElem?_append_left (by rw [hz]; exact hlt)]; exact h1 n i hlt
    · rw [Array.getElem?_append_right (by rw [hz]; omega), hz]; exact h1 _ _ (by omega)
  have hB := Blk.new w.drew (Builtin.zeroCells (Value.int .u8 0).cells n ++ Builtin.zeroCells (Value.int .u8 0).cells (grownCap w n 0 5 - n)) 5
  rw [World.size_drew] at hB
  refine ⟨hge, by unfold maxLen at hcm; omega, hB.rowB (by simp) (fun i hi => by rw [hget i hi]; simp [List.getD_eq_getElem?_getD, hi]), ⟨by simp [bts], .inr ⟨w.heap.size, _, _, rfl, Nat.le_refl _, hB, Nat.zero_le _, hcm, by rw [hcs]; omega, by simp [bts]⟩⟩, ((Below.refl _ _).drew).alloc (Nat.le_refl _) _, by simp⟩
/-- A guard for an arm. -/
theorem at_zeros {P : Program} {ops : Array Oper} {Q : Exit → Act → World → Prop} {a : Act} {w : World} {rest : List Oper} {d : Option Tmp} {s x : Operand} {t : TypeId} {p : String} {af : Array Edge} {g : Option (Nat × Bool)}
    (h : wpList P ops Q (⟨d, .call ⟨.builtin .append, #[s, x], #[24, 3]⟩, t, p, af, g⟩ :: rest) a w) : wpList P ops Q (⟨d, .call ⟨.builtin .append, #[s, x], #[24, 3]⟩, t, p, af, g⟩ :: rest) a w := h
end Go.Proofs.YteiiocibldpioaaDoor
