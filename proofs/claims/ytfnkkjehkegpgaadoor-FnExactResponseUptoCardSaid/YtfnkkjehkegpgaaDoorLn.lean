/- What ReadLine answers of a stream, in plain Lean: the line up to the first LF, less a CR ahead of it; the answer is one. -/
import Derived.Test.YtfnkkjehkegpgaaDoorRdG
namespace Go.Proofs.YtfnkkjehkegpgaaDoor
open Go.RowKit

theorem split_unique {a b x y : List UInt8} (h : a ++ 10 :: x = b ++ 10 :: y) (ha : 10 ∉ a) (hb : 10 ∉ b) : a = b ∧ x = y := by
  induction a generalizing b with
  | nil =>
    cases b with
    | nil => injection h with _ h; exact ⟨rfl, h⟩
    | cons c t => injection h with h1 h2; subst h1; exact absurd (List.mem_cons_self ..) hb
  | cons c t ih =>
    cases b with
    | nil => injection h with h1 h2; subst h1; exact absurd (List.mem_cons_self ..) ha
    | cons d u =>
      injection h with h1 h2
      subst h1
      obtain ⟨h3, h4⟩ := ih h2 (fun h => ha (List.mem_cons_of_mem _ h)) (fun h => hb (List.mem_cons_of_mem _ h))
      exact ⟨by rw [h3], h4⟩
theorem dropCR_append {a b : List UInt8} (hb : b ≠ []) : dropCR (a ++ b) = a ++ dropCR b := by
  rcases List.eq_nil_or_concat b with rfl | ⟨t, c, rfl⟩
  · exact absurd rfl hb
  · rw [List.concat_eq_append, ← List.append_assoc]
    by_cases hc : c = 13
    · subst hc; rw [dropCR_cr, dropCR_cr]
    · rw [dropCR_other hc, dropCR_other hc, List.append_assoc]
theorem LineSays.split {S a rest l R : List UInt8} {m : Bool} {er : Er} (h : LineSays S l m er R) (hS : S = a ++ 10 :: rest) (ha : 10 ∉ a) :
    er = .nil ∧ ((m = false ∧ l = dropCR a ∧ R = rest) ∨ (m = true ∧ ∃ a', 10 ∉ a' ∧ R = a' ++ 10 :: rest ∧ dropCR a = l ++ dropCR a')) := by
  have hmem : 10 ∈ S := by rw [hS]; simp
  have hlen : 4096 ≤ S.length → 10 ∉ S.take 4096 → 4096 ≤ a.length := by
    intro _ h2
    rcases Nat.lt_or_ge a.length 4096 with h' | h'
    · exfalso
      refine h2 ?_
      rw [hS, List.take_append, List.mem_append]
      right
      rw [show 4096 - a.length = (4095 - a.length) + 1 by omega, List.take_succ_cons]
      exact List.mem_cons_self ..
    · exact h'
  cases h with
  | ended hn => rw [hn] at hmem; cases hmem
  | line b rest' hl h10 hlt =>
    obtain ⟨h1, h2⟩ := split_unique (hS.symm.trans hl) ha h10
    subst h1; subst h2
    exact ⟨rfl, .inl ⟨rfl, rfl, rfl⟩⟩
  | last _ h10 _ => exact absurd hmem h10
  | more t b h4 h10 htb hb =>
    have hla := hlen h4 h10
    have hta : a.take 4096 = t ++ [b] := by rw [← htb, hS, List.take_append_of_le_length hla]
    have hda : S.drop 4096 = a.drop 4096 ++ 10 :: rest := by rw [hS, List.drop_append_of_le_length hla]
    refine ⟨rfl, .inr ⟨rfl, a.drop 4096, fun hm => ha (List.mem_of_mem_drop hm), hda, ?_⟩⟩
    have hae : a = t ++ [b] ++ a.drop 4096 := by rw [← hta, List.take_append_drop]
    by_cases hn : a.drop 4096 = []
    · rw [hn, dropCR_nil, List.append_nil]
      rw [hn, List.append_nil] at hae
      rw [hae, dropCR_other hb]
    · conv => lhs; rw [hae]
      exact dropCR_append hn
  | back _ h4 h10 htb =>
    have hla := hlen h4 h10
    have hta : a.take 4096 = l ++ [13] := by rw [← htb, hS, List.take_append_of_le_length hla]
    have hda : S.drop 4096 = a.drop 4096 ++ 10 :: rest := by rw [hS, List.drop_append_of_le_length hla]
    refine ⟨rfl, .inr ⟨rfl, 13 :: a.drop 4096, ?_, by rw [hda]; rfl, ?_⟩⟩
    · rw [List.mem_cons, not_or]
      exact ⟨by decide, fun hm => ha (List.mem_of_mem_drop hm)⟩
    · have hae : a = l ++ (13 :: a.drop 4096) := by
        conv => lhs; rw [← List.take_append_drop 4096 a, hta]
        simp
      conv => lhs; rw [hae]
      exact dropCR_append (by simp)
/-- A stream with a LF: the line ahead of it, less a CR at its end. -/
theorem TSays.line {S a rest l R : List UInt8} {er : Er} (h : TSays S l er R) (hS : S = a ++ 10 :: rest) (ha : 10 ∉ a) : er = .nil ∧ l = dropCR a ∧ R = rest := by
  induction h generalizing a with
  | done h1 =>
    obtain ⟨_, h2 | ⟨h2, _⟩⟩ := h1.split hS ha
    · exact ⟨rfl, h2.2⟩
    · cases h2
  | err h1 he => exact absurd (h1.split hS ha).1 he
  | step h1 h2 ih =>
    obtain ⟨_, h3 | ⟨_, a', h4, h5, h6⟩⟩ := h1.split hS ha
    · cases h3.1
    · obtain ⟨_, h7, h8⟩ := ih h5 h4
      exact ⟨rfl, by rw [h6, h7], h8⟩
  | fall h1 h2 he ih =>
    obtain ⟨_, h3 | ⟨_, a', h4, h5, h6⟩⟩ := h1.split hS ha
    · cases h3.1
    · exact absurd (ih h5 h4).1 he
theorem TSays.nil {l R : List UInt8} {er : Er} {S : List UInt8} (h : TSays S l er R) (hS : S = []) : er = .sent 0 ∧ l = [] ∧ R = [] := by
  cases h with
  | done h1 => cases h1 with
    | line a r hl _ _ => rw [hS] at hl; simp at hl
    | last hn _ _ => exact absurd hS hn
  | err h1 he => cases h1 with
    | ended _ => exact ⟨rfl, rfl, rfl⟩
    | _ => exact absurd rfl he
  | step h1 _ => cases h1 with
    | more _ _ h4 _ _ _ => rw [hS] at h4; simp at h4
    | back _ h4 _ _ => rw [hS] at h4; simp at h4
  | fall h1 _ _ => cases h1 with
    | more _ _ h4 _ _ _ => rw [hS] at h4; simp at h4
    | back _ h4 _ _ => rw [hS] at h4; simp at h4
/-- A stream without a LF, of less than 4096 bytes: all of it. -/
theorem TSays.rest {S l R : List UInt8} {er : Er} (h : TSays S l er R) (hS : S ≠ []) (h10 : 10 ∉ S) (hlt : S.length < 4096) : er = .nil ∧ l = S ∧ R = [] := by
  cases h with
  | done h1 => cases h1 with
    | line a r hl _ _ => exact absurd (by rw [hl]; simp) h10
    | last _ _ _ => exact ⟨rfl, rfl, rfl⟩
  | err h1 he => cases h1 with
    | ended h => exact absurd h hS
    | _ => exact absurd rfl he
  | step h1 _ => cases h1 with
    | more _ _ h4 _ _ _ => omega
    | back _ h4 _ _ => omega
  | fall h1 _ _ => cases h1 with
    | more _ _ h4 _ _ _ => omega
    | back _ h4 _ _ => omega

theorem LineSays.det {S l l' R R' : List UInt8} {m m' : Bool} {er er' : Er} (h : LineSays S l m er R) (h' : LineSays S l' m' er' R') : l = l' ∧ m = m' ∧ er = er' ∧ R = R' := by
  have hno : ∀ {a r : List UInt8}, S = a ++ 10 :: r → a.length < 4096 → 10 ∉ S.take 4096 → False := by
    intro a r hS hlt h2
    refine h2 ?_
    rw [hS, List.take_append, List.mem_append]
    right
    rw [show 4096 - a.length = (4095 - a.length) + 1 by omega, List.take_succ_cons]
    exact List.mem_cons_self ..
  cases h with
  | ended hn => cases h' with
    | ended _ => exact ⟨rfl, rfl, rfl, rfl⟩
    | line a r hl _ _ => rw [hn] at hl; simp at hl
    | last hn' _ _ => exact absurd hn hn'
    | more _ _ h4 _ _ _ => rw [hn] at h4; simp at h4
    | back _ h4 _ _ => rw [hn] at h4; simp at h4
  | line a r hl h10 hlt => cases h' with
    | ended hn => rw [hn] at hl; simp at hl
    | line a' r' hl' h10' _ =>
      obtain ⟨e1, e2⟩ := split_unique (hl.symm.trans hl') h10 h10'
      subst e1; subst e2
      exact ⟨rfl, rfl, rfl, rfl⟩
    | last _ h10' _ => exact absurd (by rw [hl]; simp) h10'
    | more _ _ _ h10' _ _ => exact (hno hl hlt h10').elim
    | back _ _ h10' _ => exact (hno hl hlt h10').elim
  | last hn h10 hlt => cases h' with
    | ended h => exact absurd h hn
    | line a r hl _ _ => exact absurd (by rw [hl]; simp) h10
    | last _ _ _ => exact ⟨rfl, rfl, rfl, rfl⟩
    | more _ _ h4 _ _ _ => omega
    | back _ h4 _ _ => omega
  | more t b h4 h10 htb hb => cases h' with
    | ended hn => rw [hn] at h4; simp at h4
    | line a r hl _ hlt => exact (hno hl hlt h10).elim
    | last _ _ hlt => omega
    | more t' b' _ _ htb' _ =>
      have h := htb.symm.trans htb'
      exact ⟨h, rfl, rfl, rfl⟩
    | back t' _ _ htb' =>
      have h := htb.symm.trans htb'
      have := (List.append_inj' h rfl).2
      injection this with h1 _
      exact absurd h1 hb
  | back t h4 h10 htb => cases h' with
    | ended hn => rw [hn] at h4; simp at h4
    | line a r hl _ hlt => exact (hno hl hlt h10).elim
    | last _ _ hlt => omega
    | more t' b' _ _ htb' hb' =>
      have h := htb.symm.trans htb'
      have := (List.append_inj' h rfl).2
      injection this with h1 _
      exact absurd h1.symm hb'
    | back t' _ _ htb' =>
      have h := htb.symm.trans htb'
      exact ⟨(List.append_inj' h rfl).1, rfl, rfl, rfl⟩
/-- The answer is one. -/
theorem TSays.det {S l l' R R' : List UInt8} {er er' : Er} (h : TSays S l er R) (h' : TSays S l' er' R') : l = l' ∧ er = er' ∧ R = R' := by
  induction h generalizing l' er' R' with
  | done h1 => cases h' with
    | done k1 => obtain ⟨a, _, b, c⟩ := h1.det k1; exact ⟨a, b, c⟩
    | err k1 ke => obtain ⟨_, _, b, _⟩ := h1.det k1; exact absurd b.symm ke
    | step k1 _ => obtain ⟨_, b, _, _⟩ := h1.det k1; cases b
    | fall k1 _ _ => obtain ⟨_, b, _, _⟩ := h1.det k1; cases b
  | err h1 he => cases h' with
    | done k1 => obtain ⟨_, _, b, _⟩ := h1.det k1; exact absurd b he
    | err k1 _ => obtain ⟨_, _, b, c⟩ := h1.det k1; exact ⟨rfl, b, c⟩
    | step k1 _ => obtain ⟨_, b, _, _⟩ := h1.det k1; cases b
    | fall k1 _ _ => obtain ⟨_, b, _, _⟩ := h1.det k1; cases b
  | step h1 h2 ih => cases h' with
    | done k1 => obtain ⟨_, b, _, _⟩ := h1.det k1; cases b
    | err k1 _ => obtain ⟨_, b, _, _⟩ := h1.det k1; cases b
    | step k1 k2 =>
      obtain ⟨a, _, _, d⟩ := h1.det k1
      subst a; subst d
      obtain ⟨x, y, z⟩ := ih k2
      exact ⟨by rw [x], y, z⟩
    | fall k1 k2 ke =>
      obtain ⟨_, _, _, d⟩ := h1.det k1
      subst d
      exact absurd (ih k2).2.1.symm ke
  | fall h1 h2 he ih => cases h' with
    | done k1 => obtain ⟨_, b, _, _⟩ := h1.det k1; cases b
    | err k1 _ => obtain ⟨_, b, _, _⟩ := h1.det k1; cases b
    | step k1 k2 =>
      obtain ⟨_, _, _, d⟩ := h1.det k1
      subst d
      exact absurd (ih k2).2.1 he
    | fall k1 k2 _ =>
      obtain ⟨_, _, _, d⟩ := h1.det k1
      subst d
      obtain ⟨_, y, z⟩ := ih k2
      exact ⟨rfl, y, z⟩
end Go.Proofs.YtfnkkjehkegpgaaDoor
