/- When lines are those of an answer, in plain Lean, as the reference tells it. -/
import Derived.Test.YtfnkkjehkegpgaaDoorRespLaw
import Derived.Test.YtfnkkjehkegpgaaDoorStrs
namespace Go.Proofs.YtfnkkjehkegpgaaDoor
open Go.RowKit

/-- A line without the code will do at this place. -/
def bareB4 (first last : Bool) : List UInt8 → Bool
  | a :: _ :: _ :: d :: _ => !first && (!last && ((a == 32) && ((d != 32) && (d != 45))))
  | _ => false
def lineB (first last : Bool) (l : AnsL) : Bool := cleanB l.t && (!l.bare || bareB4 first last l.t)
def linesB (ls : List AnsL) (k : Nat) : Prop := ∀ i l, i < k → ls[i]? = some l → lineB (decide (i = 0)) (decide (i + 1 = ls.length)) l = true
theorem linesB_succ {ls : List AnsL} {k : Nat} {l : AnsL} (h : linesB ls k) (hl : ls[k]? = some l) (h2 : lineB (decide (k = 0)) (decide (k + 1 = ls.length)) l = true) : linesB ls (k + 1) := fun i m hi hm => by
  by_cases e : i = k
  · subst e
    rw [hl] at hm; injection hm with hm; subst hm
    exact h2
  · exact h i m (by omega) hm
theorem bareB4_ok {first last : Bool} {t : List UInt8} (h : bareB4 first last t = true) : first = false ∧ last = false ∧ bareOk t := by
  unfold bareB4 at h
  split at h
  · rename_i a b c d m
    simp only [Bool.and_eq_true, Bool.not_eq_true', beq_iff_eq, bne_iff_ne, ne_eq] at h
    obtain ⟨h1, h2, h3, h4, h5⟩ := h
    subst h3
    exact ⟨h1, h2, b, c, d, m, rfl, h4, h5⟩
  · cases h
theorem tail_of {ls : List AnsL} : ∀ (r : List AnsL) (k : Nat), ls = ls.take k ++ r → 0 < k → linesB ls ls.length → AnsTail r
  | [], _, _, _, _ => trivial
  | l :: r, k, he, hk, h => by
    have hlen : k ≤ ls.length := by
      rcases Nat.lt_or_ge ls.length k with h' | h'
      · rw [List.take_of_length_le (by omega)] at he
        have := congrArg List.length he
        simp at this
      · exact h'
    have htl : (ls.take k).length = k := by rw [List.length_take]; omega
    have hg : ls[k]? = some l := by
      rw [he, List.getElem?_append_right (by omega), htl, Nat.sub_self]; rfl
    have hn : ls.length = k + (r.length + 1) := by
      have := congrArg List.length he
      rw [List.length_append, htl, List.length_cons] at this
      exact this
    have h1 := h k l (by omega) hg
    unfold lineB at h1
    simp only [Bool.and_eq_true, Bool.or_eq_true, Bool.not_eq_true'] at h1
    refine ⟨cleanB_iff.1 h1.1, fun hb => ?_, tail_of r (k + 1) ?_ (by omega) h⟩
    · rcases h1.2 with e | e
      · rw [hb] at e; cases e
      · obtain ⟨_, e2, e3⟩ := bareB4_ok e
        refine ⟨?_, e3⟩
        rintro rfl
        simp at e2
        simp at hn
        omega
    · rw [List.take_add_one, hg]
      simpa using he
theorem well_of {ls : List AnsL} (h : linesB ls ls.length) (hne : ls ≠ []) : AnsWell ls := by
  cases ls with
  | nil => exact absurd rfl hne
  | cons l r =>
    have h1 := h 0 l (by simp) rfl
    unfold lineB at h1
    simp only [Bool.and_eq_true, Bool.or_eq_true, Bool.not_eq_true'] at h1
    refine ⟨cleanB_iff.1 h1.1, ?_, tail_of r 1 (by simp) (by omega) h⟩
    rcases h1.2 with e | e
    · exact e
    · have := (bareB4_ok e).1
      simp at this
end Go.Proofs.YtfnkkjehkegpgaaDoor
