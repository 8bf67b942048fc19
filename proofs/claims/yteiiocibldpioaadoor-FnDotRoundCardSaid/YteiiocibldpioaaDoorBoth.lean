/- FnDotBoth: the plain law: of whole lines, ReadDotLines and ReadDotBytes say the same. -/
import Derived.Test.YteiiocibldpioaaDoorDotN
namespace Go.Proofs.YteiiocibldpioaaDoor
open Go.RowKit

/-- Lines with CR LF behind each. -/
def crlf (ls : List (List UInt8)) : List UInt8 := ls.flatMap fun l => l ++ [13, 10]
theorem crlf_cons (l : List UInt8) (t : List (List UInt8)) : crlf (l :: t) = (l ++ [13]) ++ 10 :: crlf t := by simp [crlf]
/-- Each CR has LF behind it. -/
def PairedP (S : List UInt8) : Prop := ∀ i : Nat, S[i]? = some 13 → S[i + 1]? = some 10
/-- Each LF has CR ahead of it. -/
def ReturnedP (S : List UInt8) : Prop := ∀ i : Nat, S[i]? = some 10 → ∃ j : Nat, i = j + 1 ∧ S[j]? = some 13
theorem crlf_of (S : List UInt8) (hp : PairedP S) (hr : ReturnedP S) (hl : S ≠ [] → S.getLast? = some 10) : ∃ ls, S = crlf ls ∧ ∀ l ∈ ls, Clean l := by
  induction hn : S.length using Nat.strongRecOn generalizing S with
  | ind n ih =>
    by_cases hS : S = []
    · exact ⟨[], hS, fun _ h => by cases h⟩
    · rcases lf_split S with h10 | ⟨a, r, hE, ha⟩
      · exact absurd (List.mem_of_getLast? (hl hS)) h10
      · have hga : S[a.length]? = some 10 := by rw [hE]; simp
        obtain ⟨j, hj, hsj⟩ := hr _ hga
        have haj : a[j]? = some 13 := by
          rw [hE, List.getElem?_append_left (by omega)] at hsj
          exact hsj
        have hae : a = a.take j ++ [13] := by
          have h1 : j < a.length := by omega
          rw [List.getElem?_eq_getElem h1] at haj
          injection haj with haj
          have h2 := List.take_succ_eq_append_getElem h1
          rw [haj, ← hj, List.take_length] at h2
          exact h2
        have hcl : Clean (a.take j) := by
          intro c hc
          refine ⟨fun e => ?_, fun e => ha (List.mem_of_mem_take (e ▸ hc))⟩
          subst e
          obtain ⟨k, hk⟩ := List.mem_iff_getElem?.1 hc
          have hkj : k < j := by
            rcases Nat.lt_or_ge k j with h' | h'
            · exact h'
            · rw [List.getElem?_eq_none (by rw [List.length_take]; omega)] at hk; cases hk
          rw [List.getElem?_take_of_lt hkj] at hk
          have h1 := hp k (by rw [hE, List.getElem?_append_left (by omega)]; exact hk)
          rw [hE, List.getElem?_append_left (by omega)] at h1
          exact ha (List.mem_iff_getElem?.2 ⟨_, h1⟩)
        have hsh : ∀ i, r[i]? = S[a.length + 1 + i]? := by
          intro i
          rw [hE, List.getElem?_append_right (by omega), show a.length + 1 + i - a.length = i + 1 by omega]
          rfl
        obtain ⟨ls, h1, h2⟩ := ih r.length (by rw [← hn, hE]; simp; omega) r
          (fun i hi => by rw [hsh] at hi ⊢; exact hp _ hi)
          (fun i hi => by
            rw [hsh] at hi
            obtain ⟨j2, hj2, hs2⟩ := hr _ hi
            rcases i with _ | i
            · exfalso
              have : j2 = a.length := by omega
              rw [this, hga] at hs2
              cases hs2
            · exact ⟨i, rfl, by rw [hsh, show a.length + 1 + i = j2 by omega]; exact hs2⟩)
          (fun hne => by
            have := hl hS
            rw [hE, List.getLast?_append] at this
            rcases r with _ | ⟨x, r⟩
            · exact absurd rfl hne
            · simpa using this) rfl
        refine ⟨a.take j :: ls, ?_, fun l hx => ?_⟩
        · rw [crlf_cons, ← hae, ← h1]; exact hE
        · rcases List.mem_cons.1 hx with rfl | hx
          · exact hcl
          · exact h2 l hx
theorem dots_uline (l X : List UInt8) (h : Clean l) (hne : l ≠ [46]) : dots 0 (l ++ (13 :: 10 :: X)) = (undot l ++ (10 :: (dots 0 X).1), (dots 0 X).2) := by
  cases l with
  | nil => exact dots_crlf 0 (.inl rfl) X
  | cons c t =>
    have hc := h c (List.mem_cons_self ..)
    have ht : ∀ x ∈ t, x ≠ 13 ∧ x ≠ 10 := fun x hx => h x (List.mem_cons_of_mem _ hx)
    by_cases h46 : c = 46
    · subst h46
      rcases t with _ | ⟨d, t⟩
      · exact absurd rfl hne
      · have hd := ht d (List.mem_cons_self ..)
        have ht2 : ∀ x ∈ t, x ≠ 13 ∧ x ≠ 10 := fun x hx => ht x (List.mem_cons_of_mem _ hx)
        have e : dstep 1 d = ([d], 4) := by simp [dstep, hd.1, hd.2]
        show dots 0 (46 :: d :: (t ++ _)) = _
        rw [dots_cons (by decide), show dstep 0 46 = ([], 1) from rfl]
        show ([] ++ (dots 1 (d :: (t ++ _))).1, (dots 1 (d :: (t ++ _))).2) = _
        rw [dots_cons (by decide), e]
        simp only [dots_plain t _ ht2, dots_crlf 4 (.inr rfl)]
        simp [undot]
    · have hd : dstep 0 c = ([c], 4) := by simp [dstep, h46, hc.1]
      rw [List.cons_append, dots_cons (by decide), hd]
      simp only [dots_plain t _ ht, dots_crlf 4 (.inr rfl)]
      simp [undot, h46]
theorem undot_len (l : List UInt8) (hne : l ≠ [46]) : l.length + 2 ≤ 2 * ((undot l).length + 1) := by
  cases l with
  | nil => simp [undot]
  | cons c t =>
    by_cases h46 : c = 46
    · subst h46
      rcases t with _ | ⟨d, t⟩
      · exact absurd rfl hne
      · simp [undot]; omega
    · simp [undot, h46]; omega
/-- The two readings of whole lines. -/
theorem DotLinesSays.both {ls ls' : List (List UInt8)} {R : List UInt8} {er : Er} (h : ∀ l ∈ ls, Clean l) (hs : DotLinesSays (crlf ls) ls' er R) :
    (er = .nil ∧ dots 0 (crlf ls) = (feeds ls', true, R) ∧ (crlf ls).length ≤ R.length + (2 * (feeds ls').length + 3)) ∨ (er = .sent 2 ∧ R = [] ∧ (dots 0 (crlf ls)).2 = (false, [])) := by
  induction ls generalizing ls' with
  | nil =>
    have hS : crlf [] = [] := rfl
    cases hs with
    | cut h1 he => exact .inr ⟨rfl, (h1.nil hS).2.2, rfl⟩
    | stop h1 => exact absurd (h1.nil hS).1 (by simp)
    | go h1 hne _ => exact absurd (h1.nil hS).1 (by simp)
  | cons l t ih =>
    have hc := h l (List.mem_cons_self ..)
    have ha : (10 : UInt8) ∉ l ++ [13] := by
      rw [List.mem_append, not_or]
      exact ⟨fun hm => (hc 10 hm).2 rfl, by decide⟩
    have hS := crlf_cons l t
    have hd : dropCR (l ++ [13]) = l := dropCR_cr _
    have hS2 : crlf (l :: t) = l ++ (13 :: 10 :: crlf t) := by simp [crlf]
    cases hs with
    | cut h1 he => exact absurd (h1.line hS ha).1 he
    | stop h1 =>
      obtain ⟨_, e1, e2⟩ := h1.line hS ha
      rw [hd] at e1
      subst e1; subst e2
      refine .inl ⟨rfl, ?_, by rw [hS2]; simp [feeds]⟩
      rw [hS2]
      show dots 0 (46 :: 13 :: 10 :: crlf t) = _
      rw [dots_cons (by decide), show dstep 0 46 = ([], 1) from rfl, dots_cons (by decide), show dstep 1 13 = ([], 2) from rfl, dots_cons (by decide), show dstep 2 10 = ([], 5) from rfl, dots_end]
      rfl
    | go h1 hne h2 =>
      obtain ⟨_, e1, e2⟩ := h1.line hS ha
      rw [hd] at e1
      subst e1; subst e2
      have hu := undot_len _ hne
      have hdl := dots_uline _ (crlf t) hc hne
      rcases ih (fun x hx => h x (List.mem_cons_of_mem _ hx)) h2 with ⟨k1, k2, k3⟩ | ⟨k1, k2, k3⟩
      · refine .inl ⟨k1, ?_, ?_⟩
        · rw [hS2, hdl, k2]; simp [feeds]
        · rw [hS2]; simp [feeds] at k3 ⊢; omega
      · refine .inr ⟨k1, k2, ?_⟩
        rw [hS2, hdl]
        exact k3
/-- How much is given. -/
theorem dots_out (S : List UInt8) : ∀ s, (dots s S).1.length ≤ 2 * S.length := by
  induction S with
  | nil => intro s; simp [dots]
  | cons c t ih =>
    intro s
    by_cases hs : s = 5
    · subst hs; rw [dots_end]; simp
    · have hd : (dstep s c).1.length ≤ 2 := by
        unfold dstep d4
        repeat' split
        all_goals simp
      rw [dots_cons hs]
      have := ih (dstep s c).2
      simp
      omega
end Go.Proofs.YteiiocibldpioaaDoor
