/- The lines of a stream, one behind the other, in plain Lean: what ReadLine gives of them all, and the reference's Lines and Tail. -/
import Derived.Test.YteiiocibldpioaaDoorLn
import Derived.Test.YteiiocibldpioaaDoorRdH
import Derived.Test.YteiiocibldpioaaDoorDots
namespace Go.Proofs.YteiiocibldpioaaDoor
open Go.RowKit

theorem TSays.er {S l R : List UInt8} {er : Er} (h : TSays S l er R) : er = .nil ∨ er = .sent 1 := by
  induction h with
  | done _ => exact .inl rfl
  | err h1 he => cases h1 with
    | ended _ => exact .inr rfl
    | _ => exact absurd rfl he
  | step _ _ _ => exact .inl rfl
  | fall _ _ _ ih => exact ih
theorem TSays.lt {S l R : List UInt8} {er : Er} (h : TSays S l er R) (he : er = .nil) : R.length < S.length ∧ l.length ≤ S.length := by
  induction h with
  | done h1 => cases h1 with
    | line a r hl _ _ => rw [hl]; have := dropCR_le a; simp; omega
    | last hn _ _ => exact ⟨List.length_pos_iff.2 hn, Nat.le_refl _⟩
  | err _ h => exact absurd he h
  | step h1 _ ih =>
    have := h1.more_lt
    have := ih rfl
    rw [List.length_append]
    omega
  | fall _ _ h _ => exact absurd he h
/-- What ReadLine gives of a stream, call by call, up to the first error. -/
inductive LinesSays : List UInt8 → List (List UInt8) → Prop
  | stop {S l R : List UInt8} {er : Er} : TSays S l er R → er ≠ .nil → LinesSays S []
  | go {S l R : List UInt8} {ls : List (List UInt8)} : TSays S l .nil R → LinesSays R ls → LinesSays S (l :: ls)
theorem LinesSays.det {S : List UInt8} {ls ls' : List (List UInt8)} (h : LinesSays S ls) (h' : LinesSays S ls') : ls = ls' := by
  induction h generalizing ls' with
  | stop h1 he => cases h' with
    | stop _ _ => rfl
    | go k1 _ => exact absurd (h1.det k1).2.1 he
  | go h1 h2 ih => cases h' with
    | stop k1 ke => exact absurd (h1.det k1).2.1.symm ke
    | go k1 k2 =>
      obtain ⟨e1, _, e3⟩ := h1.det k1
      subst e1; subst e3
      rw [ih k2]
/-- The reference's Lines. -/
def linesAcc (acc : List UInt8) : List UInt8 → List (List UInt8)
  | [] => if acc = [] then [] else [acc]
  | c :: t => if c = 10 then dropCR acc :: linesAcc [] t else linesAcc (acc ++ [c]) t
theorem linesAcc_cons (acc : List UInt8) (c : UInt8) (t : List UInt8) : linesAcc acc (c :: t) = if c = 10 then dropCR acc :: linesAcc [] t else linesAcc (acc ++ [c]) t := rfl
theorem linesAcc_line (a r : List UInt8) (ha : 10 ∉ a) : ∀ acc, linesAcc acc (a ++ 10 :: r) = dropCR (acc ++ a) :: linesAcc [] r := by
  induction a with
  | nil => intro acc; simp [linesAcc]
  | cons c t ih =>
    intro acc
    rw [List.mem_cons, not_or] at ha
    rw [List.cons_append, linesAcc_cons, if_neg (Ne.symm ha.1), ih ha.2]
    simp
theorem linesAcc_tail (a : List UInt8) (ha : 10 ∉ a) : ∀ acc, linesAcc acc a = if acc ++ a = [] then [] else [acc ++ a] := by
  induction a with
  | nil => intro acc; simp [linesAcc]
  | cons c t ih =>
    intro acc
    rw [List.mem_cons, not_or] at ha
    rw [linesAcc_cons, if_neg (Ne.symm ha.1), ih ha.2]
    simp
/-- The reference's Tail. -/
def tailAcc (n : Nat) : List UInt8 → Nat
  | [] => n
  | c :: t => tailAcc (if c = 10 then 0 else n + 1) t
theorem tailAcc_cons (n : Nat) (c : UInt8) (t : List UInt8) : tailAcc n (c :: t) = tailAcc (if c = 10 then 0 else n + 1) t := rfl
theorem tailAcc_line (a r : List UInt8) : ∀ n, tailAcc n (a ++ 10 :: r) = tailAcc 0 r := by
  induction a with
  | nil => intro n; simp [tailAcc]
  | cons c t ih => intro n; rw [List.cons_append, tailAcc_cons, ih]
theorem tailAcc_none (a : List UInt8) (ha : 10 ∉ a) : ∀ n, tailAcc n a = n + a.length := by
  induction a with
  | nil => intro n; simp [tailAcc]
  | cons c t ih =>
    intro n
    rw [List.mem_cons, not_or] at ha
    rw [tailAcc_cons, if_neg (Ne.symm ha.1), ih ha.2]
    simp; omega
theorem lf_split (S : List UInt8) : 10 ∉ S ∨ ∃ a r, S = a ++ 10 :: r ∧ 10 ∉ a := by
  by_cases h : 10 ∈ S
  · obtain ⟨a, r, h1, h2⟩ := List.eq_append_cons_of_mem h
    exact .inr ⟨a, r, h1, h2⟩
  · exact .inl h
theorem LinesSays.law {S : List UInt8} {ls : List (List UInt8)} (h : LinesSays S ls) (ht : tailAcc 0 S < 4096) : ls = linesAcc [] S := by
  induction h with
  | @stop S l R er h1 he =>
    rcases lf_split S with h10 | ⟨a, r, hS, ha⟩
    · by_cases hn : S = []
      · subst hn; rfl
      · rw [tailAcc_none S h10] at ht
        exact absurd (h1.rest hn h10 (by omega)).1 he
    · exact absurd (h1.line hS ha).1 he
  | @go S l R ls h1 h2 ih =>
    rcases lf_split S with h10 | ⟨a, r, hS, ha⟩
    · by_cases hn : S = []
      · have := (h1.nil hn).1
        cases this
      · rw [tailAcc_none S h10] at ht
        obtain ⟨_, e2, e3⟩ := h1.rest hn h10 (by omega)
        subst e2; subst e3
        rw [ih (by simp [tailAcc]), linesAcc_tail _ h10]
        simp [linesAcc, hn]
    · obtain ⟨_, e2, e3⟩ := h1.line hS ha
      subst e2; subst e3
      rw [hS, tailAcc_line] at ht
      rw [hS, linesAcc_line a _ ha, ih ht]
      rfl
/-- Data of clean lines. -/
theorem linesAcc_feeds (ls : List (List UInt8)) (m : List UInt8) (h : ∀ l ∈ ls, Clean l) (hm : Clean m) : linesAcc [] (feeds ls ++ m) = ls ++ (if m = [] then [] else [m]) := by
  induction ls with
  | nil =>
    have := linesAcc_tail m (fun hx => (hm 10 hx).2 rfl) []
    simpa [feeds] using this
  | cons l t ih =>
    have e : feeds (l :: t) ++ m = l ++ 10 :: (feeds t ++ m) := by simp [feeds]
    have hc := h l (List.mem_cons_self ..)
    have hd : dropCR l = l := by
      rcases List.eq_nil_or_concat l with rfl | ⟨u, b, rfl⟩
      · exact dropCR_nil
      · rw [List.concat_eq_append] at *
        exact dropCR_other (hc b (by simp)).1
    rw [e, linesAcc_line l _ (fun hx => (hc 10 hx).2 rfl), ih (fun x hx => h x (List.mem_cons_of_mem _ hx))]
    simp [hd]
/-- Any data without CR are lines with LF, and what stands behind the last one. -/
theorem data_split (D : List UInt8) (h : 13 ∉ D) : ∃ ls m, D = feeds ls ++ m ∧ (∀ l ∈ ls, Clean l) ∧ Clean m := by
  induction hn : D.length using Nat.strongRecOn generalizing D with
  | ind n ih =>
    rcases lf_split D with h10 | ⟨a, r, hS, ha⟩
    · exact ⟨[], D, rfl, fun _ hx => (by cases hx), fun c hc => ⟨fun e => h (e ▸ hc), fun e => h10 (e ▸ hc)⟩⟩
    · have h13 : 13 ∉ r := fun hx => h (by rw [hS]; simp [hx])
      obtain ⟨ls, m, h1, h2, h3⟩ := ih r.length (by rw [← hn, hS]; simp; omega) r h13 rfl
      refine ⟨a :: ls, m, by rw [hS, h1]; simp [feeds], ?_, h3⟩
      intro l hl
      rcases List.mem_cons.1 hl with rfl | hl
      · exact fun c hc => ⟨fun e => h (by rw [hS]; subst e; simp [hc]), fun e => ha (e ▸ hc)⟩
      · exact h2 l hl
end Go.Proofs.YteiiocibldpioaaDoor
