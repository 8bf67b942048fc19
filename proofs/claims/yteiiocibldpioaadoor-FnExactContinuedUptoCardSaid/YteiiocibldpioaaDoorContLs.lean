/- Continued lines, all of a text: the plain law. No program is named. -/
import Derived.Test.YteiiocibldpioaaDoorContLaw
namespace Go.Proofs.YteiiocibldpioaaDoor
open Go.RowKit

/-- What impl.Continued says. -/
inductive ContSays : List UInt8 → List (List UInt8) → Er → Prop
  | stop {S l R : List UInt8} {er : Er} : CSays noV S l er R → er ≠ .nil → ContSays S [] er
  | go {S line R : List UInt8} {ls : List (List UInt8)} {er : Er} : CSays noV S line .nil R → ContSays R ls er → ContSays S (line :: ls) er
/-- A long line, with its blanks and its kind of end. -/
structure LongL where
  p : List UInt8
  ps : List (List UInt8)
  bl : List UInt8
  feed : Bool
def LongL.text (L : LongL) : List UInt8 := L.p ++ (eol L.feed ++ moreText L.bl L.feed L.ps)
def LongL.says (L : LongL) : List UInt8 := L.p ++ moreSays L.ps
theorem CSays.nothing {l R : List UInt8} {er : Er} (h : CSays noV [] l er R) : er = .sent 1 := by
  cases h with
  | err h1 _ => exact (h1.nil rfl).1
  | blank h1 => have := (h1.nil rfl).1; cases this
  | bad h1 _ _ => have := (h1.nil rfl).1; cases this
  | line h1 _ _ _ => have := (h1.nil rfl).1; cases this
theorem texts_head {Ls : List LongL} (h : ∀ L ∈ Ls, LongP L.p L.ps L.bl) : ∀ c t, (Ls.flatMap LongL.text) = c :: t → blank c = false := by
  intro c t he
  cases Ls with
  | nil => cases he
  | cons L Ls =>
    have hL := h L (List.mem_cons_self ..)
    rw [List.flatMap_cons] at he
    unfold LongL.text at he
    cases hp : L.p with
    | nil =>
      rw [hp] at he
      cases hf : L.feed with
      | true =>
        rw [hf] at he
        injection he with h1 _
        subst h1
        rfl
      | false =>
        rw [hf] at he
        injection he with h1 _
        subst h1
        rfl
    | cons a u =>
      rw [hp] at he
      injection he with h1 _
      subst h1
      exact hL.first.head_blank hp
theorem ContSays.law {Ls : List LongL} {ls : List (List UInt8)} {er : Er} (h : ∀ L ∈ Ls, LongP L.p L.ps L.bl) (hs : ContSays (Ls.flatMap LongL.text) ls er) : ls = Ls.map LongL.says ∧ er = .sent 1 := by
  induction Ls generalizing ls with
  | nil =>
    cases hs with
    | stop h1 _ => exact ⟨rfl, h1.nothing⟩
    | go h1 _ => have := h1.nothing; cases this
  | cons L Ls ih =>
    have hL := h L (List.mem_cons_self ..)
    have hX := texts_head (Ls := Ls) (fun L' hm => h L' (List.mem_cons_of_mem _ hm))
    have hS : (L :: Ls).flatMap LongL.text = L.p ++ (eol L.feed ++ (moreText L.bl L.feed L.ps ++ Ls.flatMap LongL.text)) := by
      rw [List.flatMap_cons]
      unfold LongL.text
      simp only [List.append_assoc]
    rw [hS] at hs
    cases hs with
    | stop h1 h2 => exact absurd (h1.long hL hX).1 h2
    | go h1 h2 =>
      obtain ⟨_, rfl, rfl⟩ := h1.long hL hX
      obtain ⟨i1, i2⟩ := ih (fun L' hm => h L' (List.mem_cons_of_mem _ hm)) h2
      exact ⟨by rw [i1]; rfl, i2⟩
end Go.Proofs.YteiiocibldpioaaDoor
