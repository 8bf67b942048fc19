/- What an answer's text says, line by line, in plain Lean. -/
import Derived.Test.YtfnkkjehkegpgaaDoorCodeN
namespace Go.Proofs.YtfnkkjehkegpgaaDoor
open Go.RowKit

/-- A line of an answer: its text, and whether it stands without the code. -/
structure AnsL where
  t : List UInt8
  bare : Bool
/-- The line as it stands, ahead of CR LF. -/
def ansLine (n : Int) (last : Bool) (l : AnsL) : List UInt8 := if l.bare then l.t else digitsL n ++ (if last then 32 else 45) :: l.t
def ansText (n : Int) : List AnsL → List UInt8
  | [] => []
  | l :: r => ansLine n r.isEmpty l ++ (13 :: 10 :: ansText n r)
/-- The message: the lines with LF between two of them. -/
def ansMore : List AnsL → List UInt8
  | [] => []
  | l :: r => 10 :: (l.t ++ ansMore r)
def ansMsg : List AnsL → List UInt8
  | [] => []
  | l :: r => l.t ++ ansMore r
/-- A line without the code: four bytes at least, a space first, and neither a space nor a hyphen as the fourth. -/
def bareOk (t : List UInt8) : Prop := ∃ b c d m, t = 32 :: b :: c :: d :: m ∧ d ≠ 32 ∧ d ≠ 45
/-- The lines behind the first one. -/
def AnsTail : List AnsL → Prop
  | [] => True
  | l :: r => Clean l.t ∧ (l.bare = true → r ≠ [] ∧ bareOk l.t) ∧ AnsTail r
/-- All lines. -/
def AnsWell : List AnsL → Prop
  | [] => False
  | l :: r => Clean l.t ∧ l.bare = false ∧ AnsTail r
theorem parse_bare {t : List UInt8} (h : bareOk t) (x : Int) : parseL x t = (0, false, [], 3) := by
  obtain ⟨b, c, d, m, rfl, h1, h2⟩ := h
  have h : ¬ (d = 32 ∨ d = 45) := by rintro (e | e); exact h1 e; exact h2 e
  simp [parseL, h]
theorem parse_line (n : Int) (h1 : 100 ≤ n) (h2 : n ≤ 999) (last : Bool) (l : AnsL) (hb : l.bare = false) (x : Int) : parseL x (ansLine n last l) = (n, !last, l.t, codeErr n x) := by
  unfold ansLine
  rw [hb, if_neg (by decide)]
  cases last
  · exact code_law n x h1 h2 45 (.inr rfl) l.t
  · exact code_law n x h1 h2 32 (.inl rfl) l.t
theorem ansLine_clean (n : Int) (h1 : 100 ≤ n) (h2 : n ≤ 999) (last : Bool) {l : AnsL} (h : Clean l.t) : Clean (ansLine n last l) := by
  unfold ansLine
  split
  · exact h
  · refine (digits_clean n h1 h2).append ?_
    cases last
    · exact Clean.cons (by decide) (by decide) h
    · exact Clean.cons (by decide) (by decide) h
theorem ansText_cons (n : Int) (l : AnsL) (r : List AnsL) (X : List UInt8) : ansText n (l :: r) ++ X = (ansLine n r.isEmpty l ++ [13]) ++ 10 :: (ansText n r ++ X) := by simp [ansText]
theorem ansLine_le (n : Int) (last : Bool) (l : AnsL) : (ansLine n last l).length ≤ l.t.length + 4 := by
  unfold ansLine
  split
  · omega
  · simp [digitsL]
theorem ansText_le (n : Int) (ls : List AnsL) : (ansText n ls).length ≤ (ls.map fun l => l.t.length + 6).sum := by
  induction ls with
  | nil => simp [ansText]
  | cons l r ih =>
    have := ansLine_le n r.isEmpty l
    simp only [ansText, List.length_append, List.length_cons, List.map_cons, List.sum_cons]
    omega
theorem ansMore_le (n : Int) (ls : List AnsL) : (ansMore ls).length ≤ (ansText n ls).length := by
  induction ls with
  | nil => simp [ansMore, ansText]
  | cons l r ih =>
    have : l.t.length ≤ (ansLine n r.isEmpty l).length := by
      unfold ansLine
      split
      · omega
      · simp
        omega
    simp only [ansMore, ansText, List.length_append, List.length_cons]
    omega
theorem ansMore_snoc (ls : List AnsL) (l : AnsL) : ansMore (ls ++ [l]) = ansMore ls ++ 10 :: l.t := by
  induction ls with
  | nil => simp [ansMore]
  | cons a r ih => simp [ansMore, ih]
end Go.Proofs.YtfnkkjehkegpgaaDoor
