/- The conversions between strings and bytes, as a walk meets them: a new block that reads as the string; a string of the bytes that a row holds. -/
import Derived.Test.YtaoedejenjfhoaaBase
import Derived.Test.YtaoedejenjfhoaaRows
import Derived.Laws.IdiomStrings
namespace Go.Proofs.Ytaoedejenjfhoaa
open Go.RowKit

/-- A new block of bytes behind a conversion: what is known of it. -/
structure Fresh (w w1 : World) (l : List UInt8) (c : Nat) : Prop where
  below : Below w.heap.size w w1
  size : w1.heap.size = w.heap.size + 1
  le : l.length ≤ c
  le' : c ≤ 9223372036854775807
  row : Row w1 w.heap.size 0 l.length (fun i => (l.getD i 0).toNat)

theorem bytesRow_size (l : List UInt8) (c : Nat) (h : l.length ≤ c) : (bytesRow ⟨l.toArray⟩ c).size = c := by
  simp [bytesRow, mk_size]; omega
theorem bytesRow_get (l : List UInt8) (c i : Nat) (h : i < l.length) : (bytesRow ⟨l.toArray⟩ c)[i]? = some (.int .u8 (l.getD i 0).toNat) := by
  unfold bytesRow
  rw [Array.getElem?_append_left (by simpa using h)]
  simp [List.getElem?_eq_getElem h]
theorem fresh_of (w : World) (l : List UInt8) (hl : l.length ≤ 9223372036854775807) :
    Fresh w (w.drew.alloc (.cells (bytesRow ⟨l.toArray⟩ (grownCap w l.length 0 5)) 5 ((bytesRow ⟨l.toArray⟩ (grownCap w l.length 0 5)).size, (bytesRow ⟨l.toArray⟩ (grownCap w l.length 0 5)).size + 1))) l (grownCap w l.length 0 5) := by
  have hc : l.length ≤ grownCap w l.length 0 5 := by simp [grownCap, Question.cut]
  have hc' : grownCap w l.length 0 5 ≤ 9223372036854775807 := by
    simp only [grownCap, Question.cut]
    have := Nat.mod_lt (w.tape w.drawn (Question.appendCap l.length 0 5)) (show 0 < 2 ^ 63 - l.length by omega)
    omega
  refine ⟨((Below.refl _ _).drew).alloc (Nat.le_refl _) _, by simp, hc, hc', fun i hi => ?_⟩
  have hx := World.cell?_alloc_mark w.drew (bytesRow ⟨l.toArray⟩ (grownCap w l.length 0 5)) 5 ((bytesRow ⟨l.toArray⟩ (grownCap w l.length 0 5)).size, (bytesRow ⟨l.toArray⟩ (grownCap w l.length 0 5)).size + 1) i
  have hy := World.frozen?_alloc_mark w.drew (bytesRow ⟨l.toArray⟩ (grownCap w l.length 0 5)) 5 (bytesRow ⟨l.toArray⟩ (grownCap w l.length 0 5)).size ((bytesRow ⟨l.toArray⟩ (grownCap w l.length 0 5)).size + 1) i
  rw [World.size_drew] at hx hy
  rw [Nat.zero_add, hx, hy]
  refine ⟨bytesRow_get l _ i hi, ?_⟩
  rw [bytesRow_size l _ hc]
  simp; omega

/-- One wanted operation that yields a value. -/
theorem wpList_value {P : Program} {ops : Array Oper} {Q : Exit → Act → World → Prop} {a : Act} {w w' : World} {rest : List Oper} {o : Oper} {v : Value}
    (hw : Region.wanted o (yielded ops a.tmps) = true) (hr : (execOp a.eval o).run P w = .ok (.value v) w') (h : wpList P ops Q rest (a.put o.dst v) w') : wpList P ops Q (o :: rest) a w := by
  unfold wpList
  rw [if_pos hw]
  refine .inl ?_
  unfold Oper.wp
  rw [hr]
  exact h
theorem exec_convert {P : Program} {o : Oper} {a : Act} {w w' : World} {src dst : TypeId} {x : Operand} {u v : Value} (ho : o.op = .convert src dst x) (hx : a.eval x = u) (hr : (convert src dst u).run P w = .ok v w') :
    (execOp a.eval o).run P w = .ok (.value v) w' := by
  unfold execOp
  simp only [ho, hx, Sem.run_bind, hr, Result.andThen_ok]
  rfl
/-- '[]byte(s)'. -/
theorem wpList_toBytes {ops : Array Oper} {Q : Exit → Act → World → Prop} {a : Act} {w : World} {rest : List Oper} {o : Oper}
    (hw : Region.wanted o (yielded ops a.tmps) = true) (x : Operand) (ho : o.op = .convert 9 24 x) (l : List UInt8) (hx : a.eval x = .string ⟨l.toArray⟩) (hl : l.length ≤ 9223372036854775807)
    (h : ∀ c w1, Fresh w w1 l c → wpList Try.prog ops Q rest (a.put o.dst (.slice (some ⟨w.heap.size, 0, none⟩) l.length c)) w1) : wpList Try.prog ops Q (o :: rest) a w :=
  wpList_value hw (exec_convert ho hx (run_bytes_of_string w 9 24 5 _ Try.underlying9 Try.underlying24 Try.underlying5)) (h _ _ (fresh_of w l hl))
/-- A guard for an arm: the next operation is '[]byte(s)'. -/
theorem at_toBytes {P : Program} {ops : Array Oper} {Q : Exit → Act → World → Prop} {a : Act} {w : World} {rest : List Oper} {d : Option Tmp} {x : Operand} {t : TypeId} {p : String} {af : Array Edge} {g : Option (Nat × Bool)}
    (h : wpList P ops Q (⟨d, .convert 9 24 x, t, p, af, g⟩ :: rest) a w) : wpList P ops Q (⟨d, .convert 9 24 x, t, p, af, g⟩ :: rest) a w := h
/-- 'string(b)'. -/
theorem run_toString {w : World} {g o c n : Nat} {l : List UInt8} (hn : n = l.length) (hr : Row w g o n (fun i => (l.getD i 0).toNat)) :
    (convert 24 9 (.slice (some ⟨g, o, none⟩) n c)).run Try.prog w = .ok (.string ⟨l.toArray⟩) w := by
  subst hn
  refine run_convert_bytes_back w 24 9 5 ⟨g, o, none⟩ c l Try.underlying24 Try.underlying5 Try.underlying9 (fun j hj => ?_)
  have h := hr.cell hj
  rw [List.getD_eq_getElem?_getD, List.getElem?_eq_getElem hj] at h
  have ha : (Addr.mk g o none).add j = ⟨g, o + j, none⟩ := by
    unfold Addr.add
    split
    · rename_i h0; subst h0; rfl
    · rfl
  rw [ha]
  exact h
theorem run_toString_nil {w : World} {A : Option Addr} {c : Nat} :
    (convert 24 9 (.slice A 0 c)).run Try.prog w = .ok (.string ⟨#[]⟩) w := by
  rw [run_convert_bytes_string w 24 9 5 A 0 c Try.underlying24 Try.underlying5 Try.underlying9]
  rcases A with _ | a
  · rfl
  · exact run_bytesToString w a 0 c [] rfl
end Go.Proofs.Ytaoedejenjfhoaa
