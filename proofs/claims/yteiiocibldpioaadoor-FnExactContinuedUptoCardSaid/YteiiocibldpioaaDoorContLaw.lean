/- Continued lines: what readContinuedLineSlice says of a stream, as relations; of well long lines it says their pieces with a space between two of them. No program is named. -/
import Derived.Test.YteiiocibldpioaaDoorTrm
import Derived.Test.YteiiocibldpioaaDoorLn
namespace Go.Proofs.YteiiocibldpioaaDoor
open Go.RowKit

/-- The lines that go on: S is left, acc has been gathered. -/
inductive CLoop : List UInt8 → List UInt8 → List UInt8 → Er → List UInt8 → Prop
  | stop {S acc : List UInt8} : S.takeWhile blank = [] → CLoop S acc acc .nil S
  | cut {S acc l R : List UInt8} {er : Er} : S.takeWhile blank ≠ [] → TSays (S.dropWhile blank) l er R → er ≠ .nil → CLoop S acc [] er R
  | go {S acc l R line R' : List UInt8} {er : Er} : S.takeWhile blank ≠ [] → TSays (S.dropWhile blank) l .nil R → CLoop R (acc ++ 32 :: trimB l) line er R' → CLoop S acc line er R'
/-- What readContinuedLineSlice says, where vE is what it makes of the first line. -/
inductive CSays (vE : List UInt8 → Er) : List UInt8 → List UInt8 → Er → List UInt8 → Prop
  | err {S l R : List UInt8} {er : Er} : TSays S l er R → er ≠ .nil → CSays vE S [] er R
  | blank {S R : List UInt8} : TSays S [] .nil R → CSays vE S [] .nil R
  | bad {S l R : List UInt8} : TSays S l .nil R → l ≠ [] → vE l ≠ .nil → CSays vE S [] (vE l) R
  | line {S l R line R' : List UInt8} {er : Er} : TSays S l .nil R → l ≠ [] → vE l = .nil → CLoop R (trimB l) line er R' → CSays vE S line er R'
/-- Every first line will do. -/
def noV : List UInt8 → Er := fun _ => .nil
/-- Printable, with no space at either end. -/
structure BareP (p : List UInt8) : Prop where
  print : ∀ c ∈ p, c ≠ 9 ∧ c ≠ 10 ∧ c ≠ 13
  head : ∀ c t, p = c :: t → c ≠ 32
  last : ∀ c t, p = t ++ [c] → c ≠ 32
/-- The end of a line. -/
def eol (feed : Bool) : List UInt8 := if feed then [10] else [13, 10]
theorem BareP.no10 {p : List UInt8} (h : BareP p) : 10 ∉ p := fun hm => (h.print 10 hm).2.1 rfl
/-- Neither CR nor LF. -/
def Flat (p : List UInt8) : Prop := ∀ c ∈ p, c ≠ 10 ∧ c ≠ 13
theorem BareP.flat {p : List UInt8} (h : BareP p) : Flat p := fun c hc => (h.print c hc).2
theorem Flat.no10 {p : List UInt8} (h : Flat p) : 10 ∉ p := fun hm => (h 10 hm).1 rfl
theorem dropCR_not {p : List UInt8} (h : Flat p) : dropCR p = p := by
  rcases List.eq_nil_or_concat p with rfl | ⟨t, c, rfl⟩
  · rfl
  · rw [List.concat_eq_append] at h ⊢
    have h13 : c ≠ 13 := (h c (by simp)).2
    unfold dropCR
    rw [if_neg (by simpa using h13)]
/-- A line with one of the two ends. -/
theorem TSays.eol {p X l R : List UInt8} {feed : Bool} {er : Er} (h : Flat p) (hs : TSays (p ++ (Go.Proofs.YteiiocibldpioaaDoor.eol feed ++ X)) l er R) : er = .nil ∧ l = p ∧ R = X := by
  cases feed with
  | true =>
    have hS : p ++ (Go.Proofs.YteiiocibldpioaaDoor.eol true ++ X) = p ++ 10 :: X := rfl
    obtain ⟨h1, h2, h3⟩ := hs.line hS h.no10
    exact ⟨h1, by rw [h2, dropCR_not h], h3⟩
  | false =>
    have hS : p ++ (Go.Proofs.YteiiocibldpioaaDoor.eol false ++ X) = (p ++ [13]) ++ 10 :: X := by simp [Go.Proofs.YteiiocibldpioaaDoor.eol]
    have ha : (10 : UInt8) ∉ p ++ [13] := by
      rw [List.mem_append, not_or]
      exact ⟨h.no10, by decide⟩
    obtain ⟨h1, h2, h3⟩ := hs.line hS ha
    exact ⟨h1, by rw [h2, dropCR_cr], h3⟩
theorem BareP.head_blank {p : List UInt8} (h : BareP p) {c : UInt8} {t : List UInt8} (hp : p = c :: t) : Go.Proofs.YteiiocibldpioaaDoor.blank c = false := by
  rw [Bool.eq_false_iff]
  intro e
  rcases blank_iff.1 e with rfl | rfl
  · exact h.head _ t hp rfl
  · exact (h.print 9 (by rw [hp]; exact List.mem_cons_self ..)).1 rfl
theorem BareP.last_blank {p : List UInt8} (h : BareP p) {c : UInt8} {t : List UInt8} (hp : p = t ++ [c]) : Go.Proofs.YteiiocibldpioaaDoor.blank c = false := by
  rw [Bool.eq_false_iff]
  intro e
  rcases blank_iff.1 e with rfl | rfl
  · exact h.last _ t hp rfl
  · exact (h.print 9 (by rw [hp]; simp)).1 rfl
theorem trimB_bare {p : List UInt8} (h : BareP p) : trimB p = p := by
  have := trimB_eq (l := p) (i := 0) (j := p.length) (fun c hc => by simp at hc) (fun c hc => by
    cases p with
    | nil => simp at hc
    | cons a t => simp at hc; subst hc; exact h.head_blank rfl) (fun c hc => by simp at hc) (by simp) (fun c h0 hc => by
    rcases List.eq_nil_or_concat p with hp | ⟨t, a, hp⟩
    · rw [hp] at h0; simp at h0
    · rw [List.concat_eq_append] at hp
      rw [hp] at hc
      simp at hc
      subst hc
      exact h.last_blank hp)
  rw [this]
  simp
/-- The pieces behind the first one, each in a line of its own behind blanks. -/
def moreText (bl : List UInt8) (feed : Bool) (ps : List (List UInt8)) : List UInt8 := ps.flatMap fun p => bl ++ (p ++ eol feed)
/-- What they add. -/
def moreSays (ps : List (List UInt8)) : List UInt8 := ps.flatMap fun p => 32 :: p
theorem CLoop.more {bl : List UInt8} {feed : Bool} {ps : List (List UInt8)} {X acc line R : List UInt8} {er : Er} (hb : ∀ c ∈ bl, blank c = true) (hbl : ps ≠ [] → bl ≠ []) (hp : ∀ p ∈ ps, BareP p ∧ p ≠ []) (hX : ∀ c t, X = c :: t → blank c = false) (h : CLoop (moreText bl feed ps ++ X) acc line er R) : line = acc ++ moreSays ps ∧ er = .nil ∧ R = X := by
  induction ps generalizing acc with
  | nil =>
    have e := takeWhile_blank (pre := []) (S1 := X) (fun _ h => by cases h) hX
    have hS : moreText bl feed [] ++ X = X := rfl
    rw [hS] at h
    cases h with
    | stop _ => exact ⟨by simp [moreSays], rfl, rfl⟩
    | cut h1 _ _ => exact absurd e.1 h1
    | go h1 _ _ => exact absurd e.1 h1
  | cons p ps ih =>
    have hpp := hp p (List.mem_cons_self ..)
    have hS : moreText bl feed (p :: ps) ++ X = bl ++ (p ++ (eol feed ++ (moreText bl feed ps ++ X))) := by simp [moreText]
    have e := takeWhile_blank (pre := bl) (S1 := p ++ (eol feed ++ (moreText bl feed ps ++ X))) hb (fun c t hc => by
      cases hpe : p with
      | nil => exact absurd hpe hpp.2
      | cons a u =>
        rw [hpe] at hc
        injection hc with hc _
        subst hc
        exact hpp.1.head_blank hpe)
    rw [hS] at h
    have hne := hbl (by simp)
    cases h with
    | stop h1 => rw [e.1] at h1; exact absurd h1 hne
    | cut h1 h2 h3 =>
      rw [e.2] at h2
      exact absurd (h2.eol hpp.1.flat).1 h3
    | go h1 h2 h3 =>
      rw [e.2] at h2
      obtain ⟨_, rfl, rfl⟩ := h2.eol hpp.1.flat
      rw [trimB_bare hpp.1] at h3
      obtain ⟨i1, i2⟩ := ih (fun _ => hne) (fun q hq => hp q (List.mem_cons_of_mem _ hq)) h3
      exact ⟨by rw [i1]; simp [moreSays], i2⟩
/-- A line and the lines behind it that go on. -/
theorem CSays.more {vE : List UInt8 → Er} {p : List UInt8} {ps : List (List UInt8)} {bl X line R : List UInt8} {feed : Bool} {er : Er} (hf : Flat p) (hv : p ≠ [] → vE p = .nil) (hps : ps ≠ [] → p ≠ []) (hb : ∀ c ∈ bl, Go.Proofs.YteiiocibldpioaaDoor.blank c = true) (hbl : ps ≠ [] → bl ≠ []) (hp : ∀ q ∈ ps, BareP q ∧ q ≠ [])
    (hX : ∀ c t, X = c :: t → Go.Proofs.YteiiocibldpioaaDoor.blank c = false) (hs : CSays vE (p ++ (eol feed ++ (moreText bl feed ps ++ X))) line er R) : er = .nil ∧ line = trimB p ++ moreSays ps ∧ R = X := by
  cases hs with
  | err h1 h2 => exact absurd (h1.eol hf).1 h2
  | blank h1 =>
    obtain ⟨_, h2, h3⟩ := h1.eol hf
    by_cases he : ps = []
    · subst he
      exact ⟨rfl, by rw [← h2]; rfl, h3⟩
    · exact absurd h2.symm (hps he)
  | bad h1 h2 h3 =>
    obtain ⟨_, h4, _⟩ := h1.eol hf
    exact absurd (h4 ▸ hv (h4 ▸ h2)) h3
  | line h1 h2 _ h3 =>
    obtain ⟨_, rfl, rfl⟩ := h1.eol hf
    obtain ⟨i1, i2, i3⟩ := h3.more hb hbl hp hX
    exact ⟨i2, i1, i3⟩
/-- A long line. -/
structure LongP (p : List UInt8) (ps : List (List UInt8)) (bl : List UInt8) : Prop where
  first : BareP p
  more : ∀ q ∈ ps, BareP q ∧ q ≠ []
  ne : ps ≠ [] → p ≠ [] ∧ bl ≠ []
  blanks : ∀ c ∈ bl, blank c = true
theorem CSays.long {p : List UInt8} {ps : List (List UInt8)} {bl X line R : List UInt8} {feed : Bool} {er : Er} (h : LongP p ps bl) (hX : ∀ c t, X = c :: t → Go.Proofs.YteiiocibldpioaaDoor.blank c = false) (hs : CSays noV (p ++ (eol feed ++ (moreText bl feed ps ++ X))) line er R) : er = .nil ∧ line = p ++ moreSays ps ∧ R = X := by
  have := hs.more h.first.flat (fun _ => rfl) (fun e => (h.ne e).1) h.blanks (fun e => (h.ne e).2) h.more hX
  rwa [trimB_bare h.first] at this
end Go.Proofs.YteiiocibldpioaaDoor
