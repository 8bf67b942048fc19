/- What the bound on the bulk of what is read gives. -/
import Derived.Test.YtaoedejenjfhoaaRows
import Derived.Deep.Slices
import Derived.Deep.Strs
namespace Go.Proofs.Ytaoedejenjfhoaa
open Go.Deep

theorem some_of_small {α : Type} {o : Option α} {f : α → Bool} (h : o.map f = some true) : ∃ x, o = some x ∧ f x = true := by
  cases o with
  | none => cases h
  | some x => exact ⟨x, rfl, by simpa using h⟩
theorem bulk_append {H : Type} (l r : List (DataW H)) : Rows.uptoBulkAll (l ++ r) = Rows.uptoBulkAll l + Rows.uptoBulkAll r := by
  induction l with
  | nil => simp [Rows.uptoBulkAll]
  | cons x l ih => simp only [List.cons_append, Rows.uptoBulkAll, ih]; omega
theorem bulk_bound {H : Type} {l : List (DataW H)} (hk : Rows.uptoSmall H l = true) : Rows.uptoBulkAll l ≤ 1048576 := of_decide_eq_true hk
theorem bulk_two {H : Type} {a b : DataW H} (hk : Rows.uptoBulkAll [a, b] ≤ 1048576) : Rows.uptoBulk a + Rows.uptoBulk b ≤ 1048576 := by simpa [Rows.uptoBulkAll] using hk
theorem bulk_slice {H : Type} (elems spare : List (DataW H)) : Rows.uptoBulkAll elems ≤ Rows.uptoBulk (.slice elems spare) := by simp only [Rows.uptoBulk]; omega
/-- A slice's elements, one by one. -/
theorem bulk_range {H : Type} (D : Nat → DataW H) (f : Nat → Nat) : ∀ n, (∀ i, i < n → f i ≤ Rows.uptoBulk (D i)) → ((List.range n).map f).sum ≤ Rows.uptoBulkAll ((List.range n).map D)
  | 0, _ => by simp
  | n + 1, h => by
    have ih := bulk_range D f n (fun i hi => h i (by omega))
    have hn := h n (by omega)
    rw [List.range_succ, List.map_append, List.map_append, List.sum_append, bulk_append]
    simp only [List.map_cons, List.map_nil, List.sum_cons, List.sum_nil, Rows.uptoBulkAll]
    omega
theorem bulk_string {H : Type} (bytes : List UInt8) : Rows.uptoBulk (DataW.lit (H := H) (.string bytes)) = bytes.length + 1 := by simp [Rows.uptoBulk]
theorem bulk_agg2 {H : Type} (a b : DataW H) : Rows.uptoBulk (.agg [a, b]) = Rows.uptoBulk a + Rows.uptoBulk b + 1 := by simp [Rows.uptoBulk, Rows.uptoBulkAll]
theorem bulk_agg3 {H : Type} (a b c : DataW H) : Rows.uptoBulk (.agg [a, b, c]) = Rows.uptoBulk a + Rows.uptoBulk b + Rows.uptoBulk c + 1 := by simp [Rows.uptoBulk, Rows.uptoBulkAll]; omega
end Go.Proofs.Ytaoedejenjfhoaa
