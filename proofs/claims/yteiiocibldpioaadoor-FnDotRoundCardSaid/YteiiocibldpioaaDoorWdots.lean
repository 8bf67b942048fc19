/- Dot encoding, written: the machine of a dotWriter, in plain Lean; what it writes of data without CR. No program is named. -/
import Derived.Test.YteiiocibldpioaaDoorDots
namespace Go.Proofs.YteiiocibldpioaaDoor

/-- A step: what is written, and the state behind it: 0 at the very beginning, 1 at a line's beginning, 2 behind a CR, 3 in a line. -/
def wstep (s : Nat) (c : UInt8) : List UInt8 × Nat :=
  if s = 2 then ([c], if c = 10 then 1 else 3)
  else ((if s = 3 then [] else if c = 46 then [46] else []) ++ ((if c = 10 then [13] else []) ++ [c]), if c = 10 then 1 else if c = 13 then 2 else 3)
/-- What is written of data from a state on. -/
def wrun (s : Nat) : List UInt8 → List UInt8
  | [] => []
  | c :: t => (wstep s c).1 ++ wrun (wstep s c).2 t
/-- The state behind data. -/
def wlast (s : Nat) : List UInt8 → Nat
  | [] => s
  | c :: t => wlast (wstep s c).2 t
/-- What Close writes. -/
def wshut (s : Nat) : List UInt8 := if s = 1 then [46, 13, 10] else if s = 2 then [10, 46, 13, 10] else [13, 10, 46, 13, 10]
theorem wrun_app (a b : List UInt8) : ∀ s, wrun s (a ++ b) = wrun s a ++ wrun (wlast s a) b := by
  induction a with
  | nil => intro s; rfl
  | cons c t ih => intro s; simp [wrun, wlast, ih, List.append_assoc]
theorem wlast_app (a b : List UInt8) : ∀ s, wlast s (a ++ b) = wlast (wlast s a) b := by
  induction a with
  | nil => intro s; rfl
  | cons c t ih => intro s; simp [wlast, ih]
/-- What is written of all data. -/
def wall (d : List UInt8) : List UInt8 := wrun 0 d ++ wshut (wlast 0 d)
/-- In a line: no LF in what is left of it. -/
theorem wrun_line (l : List UInt8) (h : Clean l) : wrun 3 l = l ∧ wlast 3 l = 3 := by
  induction l with
  | nil => exact ⟨rfl, rfl⟩
  | cons c t ih =>
    have hc := h c (List.mem_cons_self ..)
    obtain ⟨h1, h2⟩ := ih (fun x hx => h x (List.mem_cons_of_mem _ hx))
    have e : wstep 3 c = ([c], 3) := by simp [wstep, hc.1, hc.2]
    exact ⟨by simp [wrun, e, h1], by simp [wlast, e, h2]⟩
theorem wrun_begin (s : Nat) (hs : s = 0 ∨ s = 1) (l : List UInt8) (h : Clean l) (hne : l ≠ []) : wrun s l = esc l ∧ wlast s l = 3 := by
  cases l with
  | nil => exact absurd rfl hne
  | cons c t =>
    have hc := h c (List.mem_cons_self ..)
    obtain ⟨h1, h2⟩ := wrun_line t (fun x hx => h x (List.mem_cons_of_mem _ hx))
    have e : wstep s c = ((if c = 46 then [46] else []) ++ [c], 3) := by
      rcases hs with rfl | rfl <;> simp [wstep, hc.1, hc.2]
    refine ⟨?_, by simp [wlast, e, h2]⟩
    simp only [wrun, e, h1, esc, List.head?_cons, Option.some.injEq]
    split <;> simp_all
/-- A line with its LF, at a line's beginning. -/
theorem wrun_whole (s : Nat) (hs : s = 0 ∨ s = 1) (l : List UInt8) (h : Clean l) : wrun s (l ++ [10]) = esc l ++ [13, 10] ∧ wlast s (l ++ [10]) = 1 := by
  by_cases hne : l = []
  · subst hne
    rcases hs with rfl | rfl <;> exact ⟨rfl, rfl⟩
  · obtain ⟨h1, h2⟩ := wrun_begin s hs l h hne
    rw [wrun_app, wlast_app, h1, h2]
    exact ⟨rfl, rfl⟩
/-- Data of whole lines, and perhaps one more without LF. -/
theorem wall_lines (ls : List (List UInt8)) (h : ∀ l ∈ ls, Clean l) : ∀ s, (s = 0 ∨ s = 1) → ls ≠ [] →
    wrun s (feeds ls) ++ wshut (wlast s (feeds ls)) = dotText ls := by
  induction ls with
  | nil => intro s _ hne; exact absurd rfl hne
  | cons l t ih =>
    intro s hs _
    obtain ⟨h1, h2⟩ := wrun_whole s hs l (h l (List.mem_cons_self ..))
    have e : feeds (l :: t) = (l ++ [10]) ++ feeds t := by simp [feeds]
    rw [e, wrun_app (l ++ [10]) (feeds t) s, wlast_app (l ++ [10]) (feeds t) s, h1, h2]
    by_cases ht : t = []
    · subst ht
      simp [feeds, wrun, wlast, wshut, dotText]
    · have := ih (fun x hx => h x (List.mem_cons_of_mem _ hx)) 1 (.inr rfl) ht
      rw [List.append_assoc, this]
      simp [dotText]
theorem wall_tail (ls : List (List UInt8)) (m : List UInt8) (h : ∀ l ∈ ls, Clean l) (hm : Clean m) (hne : m ≠ []) : ∀ s, (s = 0 ∨ s = 1) →
    wrun s (feeds ls ++ m) ++ wshut (wlast s (feeds ls ++ m)) = dotText (ls ++ [m]) := by
  induction ls with
  | nil =>
    intro s hs
    obtain ⟨h1, h2⟩ := wrun_begin s hs m hm hne
    simp [feeds, h1, h2, wshut, dotText]
  | cons l t ih =>
    intro s hs
    obtain ⟨h1, h2⟩ := wrun_whole s hs l (h l (List.mem_cons_self ..))
    have e : feeds (l :: t) ++ m = (l ++ [10]) ++ (feeds t ++ m) := by simp [feeds]
    rw [e, wrun_app (l ++ [10]) (feeds t ++ m) s, wlast_app (l ++ [10]) (feeds t ++ m) s, h1, h2, List.append_assoc, ih (fun x hx => h x (List.mem_cons_of_mem _ hx)) 1 (.inr rfl)]
    simp [dotText]
end Go.Proofs.YteiiocibldpioaaDoor
