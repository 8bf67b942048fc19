/- Dot encoding, read: the machine of a dotReader over the bytes that are left, in plain Lean; what it gives of a block of lines, of a beginning of one. No program is named. -/
import Derived.Test.YtfnkkjehkegpgaaDoorBase
namespace Go.Proofs.YtfnkkjehkegpgaaDoor

/-- A step in the middle of a line: what is given, and the state behind it. -/
def d4 (c : UInt8) : List UInt8 × Nat := if c = 13 then ([], 3) else if c = 10 then ([10], 0) else ([c], 4)
/-- A step: 0 at a line's beginning, 1 behind a dot there, 2 behind a dot and a CR there, 3 behind a CR, 4 in a line, 5 behind the end. -/
def dstep (s : Nat) (c : UInt8) : List UInt8 × Nat :=
  if s = 0 then (if c = 46 then ([], 1) else if c = 13 then ([], 3) else ([c], 4))
  else if s = 1 then (if c = 13 then ([], 2) else if c = 10 then ([], 5) else ([c], 4))
  else if s = 2 then (if c = 10 then ([], 5) else (13 :: (d4 c).1, (d4 c).2))
  else if s = 3 then (if c = 10 then ([10], 0) else (13 :: (d4 c).1, (d4 c).2))
  else d4 c
/-- What is given of all that is left, whether the end was met, and what stands behind it. -/
def dots (s : Nat) : List UInt8 → List UInt8 × Bool × List UInt8
  | [] => ([], s == 5, [])
  | c :: t => if s = 5 then ([], true, c :: t) else ((dstep s c).1 ++ (dots (dstep s c).2 t).1, (dots (dstep s c).2 t).2.1, (dots (dstep s c).2 t).2.2)
theorem dots_end (S : List UInt8) : dots 5 S = ([], true, S) := by cases S <;> rfl
theorem dots_cons {s : Nat} (hs : s ≠ 5) (c : UInt8) (t : List UInt8) : dots s (c :: t) = ((dstep s c).1 ++ (dots (dstep s c).2 t).1, (dots (dstep s c).2 t).2.1, (dots (dstep s c).2 t).2.2) := by
  simp [dots, hs]
/-- Bytes of a line, neither CR nor LF among them, read in the line's middle. -/
theorem dots_plain (l X : List UInt8) (h : ∀ c ∈ l, c ≠ 13 ∧ c ≠ 10) : dots 4 (l ++ X) = (l ++ (dots 4 X).1, (dots 4 X).2) := by
  induction l with
  | nil => rfl
  | cons c t ih =>
    have hc := h c (List.mem_cons_self ..)
    have hd : dstep 4 c = ([c], 4) := by simp [dstep, d4, hc.1, hc.2]
    rw [List.cons_append, dots_cons (by decide), hd, ih (fun x hx => h x (List.mem_cons_of_mem _ hx))]
    rfl
theorem dots_crlf (s : Nat) (hs : s = 0 ∨ s = 4) (X : List UInt8) : dots s (13 :: 10 :: X) = (10 :: (dots 0 X).1, (dots 0 X).2) := by
  rcases hs with rfl | rfl
  · rw [dots_cons (by decide), show dstep 0 13 = ([], 3) from rfl]
    show ([] ++ (dots 3 (10 :: X)).1, _, _) = _
    rw [dots_cons (by decide), show dstep 3 10 = ([10], 0) from rfl]
    rfl
  · rw [dots_cons (by decide), show dstep 4 13 = ([], 3) from rfl]
    show ([] ++ (dots 3 (10 :: X)).1, _, _) = _
    rw [dots_cons (by decide), show dstep 3 10 = ([10], 0) from rfl]
    rfl
/-- A line with a dot ahead of it where it begins with one. -/
def esc (l : List UInt8) : List UInt8 := if l.head? = some 46 then 46 :: l else l
/-- No CR and no LF. -/
def Clean (l : List UInt8) : Prop := ∀ c ∈ l, c ≠ 13 ∧ c ≠ 10
theorem dots_line (l X : List UInt8) (h : Clean l) : dots 0 (esc l ++ (13 :: 10 :: X)) = (l ++ (10 :: (dots 0 X).1), (dots 0 X).2) := by
  cases l with
  | nil => exact dots_crlf 0 (.inl rfl) X
  | cons c t =>
    have hc := h c (List.mem_cons_self ..)
    have ht : ∀ x ∈ t, x ≠ 13 ∧ x ≠ 10 := fun x hx => h x (List.mem_cons_of_mem _ hx)
    by_cases h46 : c = 46
    · subst h46
      show dots 0 (46 :: 46 :: (t ++ _)) = _
      rw [dots_cons (by decide), show dstep 0 46 = ([], 1) from rfl]
      show ([] ++ (dots 1 (46 :: (t ++ _))).1, (dots 1 (46 :: (t ++ _))).2) = _
      rw [dots_cons (by decide), show dstep 1 46 = ([46], 4) from rfl]
      simp only [dots_plain t _ ht, dots_crlf 4 (.inr rfl)]
      simp
    · have he : esc (c :: t) = c :: t := by simp [esc, h46]
      have hd : dstep 0 c = ([c], 4) := by simp [dstep, h46, hc.1]
      rw [he, List.cons_append, dots_cons (by decide), hd]
      simp only [dots_plain t _ ht, dots_crlf 4 (.inr rfl)]
      simp
/-- The block of lines. -/
def dotText (ls : List (List UInt8)) : List UInt8 := ls.flatMap (fun l => esc l ++ [13, 10]) ++ [46, 13, 10]
/-- The lines with LF behind each. -/
def feeds (ls : List (List UInt8)) : List UInt8 := ls.flatMap (fun l => l ++ [10])
theorem dots_text (ls : List (List UInt8)) (R : List UInt8) (h : ∀ l ∈ ls, Clean l) : dots 0 (dotText ls ++ R) = (feeds ls, true, R) := by
  induction ls with
  | nil =>
    show dots 0 (46 :: 13 :: 10 :: R) = _
    rw [dots_cons (by decide), show dstep 0 46 = ([], 1) from rfl, dots_cons (by decide), show dstep 1 13 = ([], 2) from rfl, dots_cons (by decide), show dstep 2 10 = ([], 5) from rfl, dots_end]
    rfl
  | cons l t ih =>
    have := dots_line l (dotText t ++ R) (h l (List.mem_cons_self ..))
    rw [ih (fun x hx => h x (List.mem_cons_of_mem _ hx))] at this
    have e : dotText (l :: t) ++ R = esc l ++ (13 :: 10 :: (dotText t ++ R)) := by simp [dotText]
    rw [e, this]
    simp [feeds]
/-- The state behind bytes in which the end is not met. -/
def dlast (s : Nat) : List UInt8 → Nat
  | [] => s
  | c :: t => if s = 5 then 5 else dlast (dstep s c).2 t
theorem dots_app (A X : List UInt8) : ∀ s, ((dots s A).2.1 = false → (dots s (A ++ X)).1 = (dots s A).1 ++ (dots (dlast s A) X).1 ∧ (dots s (A ++ X)).2 = (dots (dlast s A) X).2 ∧ (dots s A).2.2 = []) ∧
    ((dots s A).2.1 = true → dots s (A ++ X) = ((dots s A).1, true, (dots s A).2.2 ++ X)) := by
  induction A with
  | nil =>
    intro s
    constructor
    · intro _; exact ⟨rfl, rfl, rfl⟩
    · intro h
      have : s = 5 := by simpa [dots] using h
      subst this
      rw [List.nil_append, dots_end, dots_end]
      rfl
  | cons c t ih =>
    intro s
    by_cases hs : s = 5
    · subst hs
      rw [List.cons_append, dots_end, dots_end]
      exact ⟨fun h => (by cases h), fun _ => rfl⟩
    · have hl : dlast s (c :: t) = dlast (dstep s c).2 t := by simp [dlast, hs]
      obtain ⟨i1, i2⟩ := ih (dstep s c).2
      rw [List.cons_append, dots_cons hs, dots_cons hs, hl]
      constructor
      · intro h
        obtain ⟨h1, h2, h3⟩ := i1 h
        exact ⟨by simp only [h1, List.append_assoc], h2, h3⟩
      · intro h
        rw [i2 h]
/-- A beginning of a block: a beginning of its lines, no end, nothing behind. -/
theorem dots_cut (ls : List (List UInt8)) (k : Nat) (h : ∀ l ∈ ls, Clean l) (hk : k < (dotText ls).length) :
    ∃ O, dots 0 ((dotText ls).take k) = (O, false, []) ∧ O <+: feeds ls := by
  have hw := dots_text ls [] h
  rw [List.append_nil] at hw
  have ha := dots_app ((dotText ls).take k) ((dotText ls).drop k) 0
  rw [List.take_append_drop, hw] at ha
  cases hb : (dots 0 ((dotText ls).take k)).2.1 with
  | false =>
    obtain ⟨h1, h2, h3⟩ := ha.1 hb
    refine ⟨(dots 0 ((dotText ls).take k)).1, ?_, ⟨_, h1.symm⟩⟩
    rw [← hb]
    exact Prod.ext rfl (Prod.ext rfl h3)
  | true =>
    have h1 := congrArg (fun x => x.2.2.length) (ha.2 hb)
    simp at h1
    omega
/-- The number of bytes that are consumed. -/
theorem dots_rest (S : List UInt8) : ∀ s, (dots s S).2.2 <:+ S := by
  induction S with
  | nil => intro s; exact List.suffix_refl _
  | cons c t ih =>
    intro s
    by_cases hs : s = 5
    · subst hs; rw [dots_end]; exact List.suffix_refl _
    · rw [dots_cons hs]; exact (ih _).trans (List.suffix_cons ..)
end Go.Proofs.YtfnkkjehkegpgaaDoor
