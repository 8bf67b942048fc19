/- What a dot writer writes of data without CR is the block of its lines: the plain law. -/
import Derived.Test.YteiiocibldpioaaDoorWdots
import Derived.Test.YteiiocibldpioaaDoorLnLaw
namespace Go.Proofs.YteiiocibldpioaaDoor
open Go.RowKit

theorem feeds_app (a b : List (List UInt8)) : feeds (a ++ b) = feeds a ++ feeds b := by simp [feeds]
theorem feeds_last (ls : List (List UInt8)) (h : ls ≠ []) : ∃ t, feeds ls = t ++ [10] := by
  rcases List.eq_nil_or_concat ls with rfl | ⟨t, l, rfl⟩
  · exact absurd rfl h
  · rw [List.concat_eq_append, feeds_app]
    exact ⟨feeds t ++ l, by simp [feeds]⟩
theorem wall_law (D : List UInt8) (hne : D ≠ []) (h13 : 13 ∉ D) :
    wall D = dotText (linesAcc [] D) ∧ (∀ l ∈ linesAcc [] D, Clean l) ∧ ((D.getLast? = some 10 ∧ feeds (linesAcc [] D) = D) ∨ (D.getLast? ≠ some 10 ∧ feeds (linesAcc [] D) = D ++ [10])) := by
  obtain ⟨ls, m, hD, hc, hm⟩ := data_split D h13
  have hl := linesAcc_feeds ls m hc hm
  rw [← hD] at hl
  by_cases hm0 : m = []
  · subst hm0
    rw [List.append_nil] at hD
    simp only [if_true, List.append_nil] at hl
    have hls : ls ≠ [] := by rintro rfl; exact hne (by rw [hD]; rfl)
    obtain ⟨t, ht⟩ := feeds_last ls hls
    rw [hl]
    refine ⟨?_, hc, .inl ⟨by rw [hD, ht]; simp, hD.symm⟩⟩
    unfold wall
    rw [hD]
    exact wall_lines ls hc 0 (.inl rfl) hls
  · rw [if_neg hm0] at hl
    rw [hl]
    refine ⟨?_, fun l hx => ?_, .inr ⟨fun e => ?_, ?_⟩⟩
    · unfold wall
      rw [hD]
      exact wall_tail ls m hc hm hm0 0 (.inl rfl)
    · rcases List.mem_append.1 hx with hx | hx
      · exact hc l hx
      · rw [List.mem_singleton] at hx; subst hx; exact hm
    · rw [hD, List.getLast?_append] at e
      cases hx : m.getLast? with
      | none => exact hm0 (List.getLast?_eq_none_iff.1 hx)
      | some x =>
        rw [hx] at e
        simp at e
        subst e
        exact (hm 10 (List.mem_of_getLast? hx)).2 rfl
    · rw [feeds_app, hD, List.append_assoc]
      simp [feeds]
theorem wshut_len (s : Nat) : 3 ≤ (wshut s).length := by
  unfold wshut
  split
  · simp
  · split <;> simp
theorem wall_len (D : List UInt8) : 3 ≤ (wall D).length := by unfold wall; rw [List.length_append]; have := wshut_len (wlast 0 D); omega
theorem wrun_le (D : List UInt8) : ∀ s, (wrun s D).length ≤ 3 * D.length := by
  induction D with
  | nil => intro s; simp [wrun]
  | cons c t ih =>
    intro s
    have h1 : (wstep s c).1.length ≤ 3 := by
      unfold wstep
      repeat' split
      all_goals simp
    have := ih (wstep s c).2
    simp only [wrun, List.length_append, List.length_cons]
    omega
theorem wall_le (D : List UInt8) : (wall D).length ≤ 3 * D.length + 5 := by
  have := wrun_le D 0
  have h2 : (wshut (wlast 0 D)).length ≤ 5 := by
    unfold wshut
    repeat' split
    all_goals simp
  unfold wall
  rw [List.length_append]
  omega
end Go.Proofs.YteiiocibldpioaaDoor
