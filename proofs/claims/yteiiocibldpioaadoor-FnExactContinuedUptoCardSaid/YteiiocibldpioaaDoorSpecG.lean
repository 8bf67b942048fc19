/- The walks of the reference's Printable, Bare and Blanks. -/
import Derived.Test.YteiiocibldpioaaDoorStrs
import Derived.Deep.DeepCutAuto
namespace Go.Proofs.YteiiocibldpioaaDoor
open Go.RowKit

def printB (s : List UInt8) : Bool := s.all fun c => decide (32 ≤ c.toNat) && decide (c.toNat ≤ 126)
def bareB (s : List UInt8) : Bool := printB s && (s.head? != some 32 && s.getLast? != some 32)
def blanksB (s : List UInt8) : Bool := s.all (fun c => c == 32 || c == 9) && decide (s.length ≤ 20)
theorem byte_bne (a b : UInt8) : ((a.toNat : Int) != (b.toNat : Int)) = (a != b) := by
  by_cases h : a = b
  · subst h; simp
  · have h2 : (a.toNat : Int) ≠ (b.toNat : Int) := fun e => h ((byte_eq_iff a b).1 e)
    rw [bne_iff_ne.2 h2, bne_iff_ne.2 h]
theorem printB_snoc (l : List UInt8) (k : Nat) (h : k < l.length) : printB (l.take (k + 1)) = (printB (l.take k) && (decide (32 ≤ l[k].toNat) && decide (l[k].toNat ≤ 126))) := by
  unfold printB
  rw [List.take_succ_eq_append_getElem h, List.all_append]
  simp only [List.all_cons, List.all_nil, Bool.and_true]
theorem printB_bad (l : List UInt8) (k : Nat) (h : k < l.length) (hc : l[k].toNat < 32 ∨ 126 < l[k].toNat) : printB l = false := by
  rw [Bool.eq_false_iff]
  intro h1
  have := List.all_eq_true.1 h1 l[k] (List.getElem_mem h)
  simp at this
  omega
set_option maxRecDepth 200000 in
theorem printable_any (s : List UInt8) (hs : s.length ≤ 9223372036854775807) (w : World) : Calls Tryd.prog 66 #[.string ⟨s.toArray⟩] w fun e w' => e = .returned (.bool (printB s)) ∧ w = w' := by
  go_enter Tryd.func66, Tryd.ntmps66
  go_wp2
  go_loop [3] (fun i => ∃ j : Nat, j ≤ s.length ∧ i = .int .i64 j ∧ Hid (printB (s.take j) = true)) (fun i => s.length - (intOf i).toNat)
  case atStart => exact ⟨0, Nat.zero_le _, rfl, Lib.hid rfl⟩
  case round =>
    obtain ⟨j, hj, rfl, hcj⟩ := hrel
    by_cases hjl : j < s.length
    · by_cases hbad : s[j].toNat < 32 ∨ 126 < s[j].toNat
      · have hbd := Lib.hid (printB_bad s j hjl hbad)
        by_cases h1 : s[j].toNat < 32
        · have h1i : (s[j].toNat : Int) < 32 := by omega
          clear hbad
          go_wp2
          go_ret
          exact ⟨ret_bool hbd.out.symm, rfl⟩
        · have h1i : ¬ (s[j].toNat : Int) < 32 := by omega
          have h2i : (126 : Int) < (s[j].toNat : Int) := by omega
          clear hbad
          go_wp2
          go_ret
          exact ⟨ret_bool hbd.out.symm, rfl⟩
      · have h1i : ¬ (s[j].toNat : Int) < 32 := by omega
        have h2i : ¬ (126 : Int) < (s[j].toNat : Int) := by omega
        have hnx : printB (s.take (j + 1)) = true := by
          rw [printB_snoc s j hjl, hcj.out]
          simp only [Bool.true_and, Bool.and_eq_true, decide_eq_true_eq]
          omega
        have HN := Lib.hid hnx
        clear hnx hbad
        go_wp2
        go_round
        case rel => exact ⟨j + 1, by omega, by go_num, HN⟩
        case measure => simp [intOf]; omega
    · go_wp2
      go_ret
      refine ⟨ret_bool ?_, rfl⟩
      have := hcj.out
      rw [List.take_of_length_le (by omega)] at this
      exact this.symm
theorem bareB_nil : bareB [] = true := rfl
theorem bareB_one (a : UInt8) : bareB [a] = (printB [a] && (a != 32)) := by
  have e : ((some a : Option UInt8) != some 32) = (a != 32) := by simp [bne]
  simp only [bareB, List.head?_cons, List.getLast?_singleton, e, Bool.and_self]
theorem bareB_two (a b : UInt8) (t : List UInt8) : bareB (a :: (t ++ [b])) = (printB (a :: (t ++ [b])) && ((a != 32) && (b != 32))) := by
  have e : ∀ a : UInt8, ((some a : Option UInt8) != some 32) = (a != 32) := fun a => by simp [bne]
  have h : (a :: (t ++ [b])).getLast? = some b := by rw [← List.cons_append, List.getLast?_append]; rfl
  simp only [bareB, List.head?_cons, h, e]
set_option maxRecDepth 200000 in
theorem bare_any (s : List UInt8) (hs : s.length ≤ 9223372036854775807) (w : World) : Calls Tryd.prog 55 #[.string ⟨s.toArray⟩] w fun e w' => e = .returned (.bool (bareB s)) ∧ w = w' := by
  have hp := printable_any s hs w
  rcases s with _ | ⟨a, s⟩
  · rw [show printB ([] : List UInt8) = true from rfl] at hp
    have HP := Lib.hid hp
    clear hp
    go_enter Tryd.func55, Tryd.ntmps55
    go_wp2_with (go_at_call 66; refine HP.out.mono ?_; rintro e w' ⟨rfl, rfl⟩)
    go_ret
    exact ⟨rfl, rfl⟩
  · rcases List.eq_nil_or_concat s with rfl | ⟨t, b, rfl⟩
    · rw [bareB_one]
      obtain ⟨pb, hpb⟩ : ∃ pb, pb = printB [a] := ⟨_, rfl⟩
      obtain ⟨qa, hqa⟩ : ∃ qa, qa = (a != 32) := ⟨_, rfl⟩
      have hqi : ((a.toNat : Int) != 32) = qa := by rw [hqa]; exact byte_bne a 32
      rw [← hpb, ← hqa]
      rw [← hpb] at hp
      have HP := Lib.hid hp
      clear hp hpb hqa
      cases pb <;> cases qa
      all_goals
        go_enter Tryd.func55, Tryd.ntmps55
        go_wp2_with (go_at_call 66; refine HP.out.mono ?_; rintro e w' ⟨rfl, rfl⟩)
        go_ret
        exact ⟨rfl, rfl⟩
    · simp only [List.concat_eq_append] at *
      rw [bareB_two]
      obtain ⟨pb, hpb⟩ : ∃ pb, pb = printB (a :: (t ++ [b])) := ⟨_, rfl⟩
      obtain ⟨qa, hqa⟩ : ∃ qa, qa = (a != 32) := ⟨_, rfl⟩
      obtain ⟨qb, hqb⟩ : ∃ qb, qb = (b != 32) := ⟨_, rfl⟩
      have hqi : ((a.toNat : Int) != 32) = qa := by rw [hqa]; exact byte_bne a 32
      have hqj : ((b.toNat : Int) != 32) = qb := by rw [hqb]; exact byte_bne b 32
      have hx : (a :: (t ++ [b])).length = t.length + 1 + 1 := by simp
      rw [← hpb, ← hqa, ← hqb]
      rw [← hpb] at hp
      have HP := Lib.hid hp
      clear hp hpb hqa hqb
      cases pb <;> cases qa <;> cases qb
      all_goals
        go_enter Tryd.func55, Tryd.ntmps55
        go_wp2_with (go_at_call 66; refine HP.out.mono ?_; rintro e w' ⟨rfl, rfl⟩)
        go_ret
        exact ⟨rfl, rfl⟩
theorem blanks_snoc (l : List UInt8) (k : Nat) (h : k < l.length) : (l.take (k + 1)).all (fun c => c == 32 || c == 9) = ((l.take k).all (fun c => c == 32 || c == 9) && (l[k] == 32 || l[k] == 9)) := by
  rw [List.take_succ_eq_append_getElem h, List.all_append]
  simp only [List.all_cons, List.all_nil, Bool.and_true]
theorem blanks_bad (l : List UInt8) (k : Nat) (h : k < l.length) (hc : (l[k] == 32 || l[k] == 9) = false) : blanksB l = false := by
  unfold blanksB
  rw [Bool.and_eq_false_iff]
  left
  rw [Bool.eq_false_iff]
  intro h1
  rw [List.all_eq_true.1 h1 l[k] (List.getElem_mem h)] at hc
  cases hc
set_option maxRecDepth 200000 in
theorem blanks_any (s : List UInt8) (hs : s.length ≤ 9223372036854775807) (w : World) : Calls Tryd.prog 56 #[.string ⟨s.toArray⟩] w fun e w' => e = .returned (.bool (blanksB s)) ∧ w = w' := by
  go_enter Tryd.func56, Tryd.ntmps56
  go_wp2
  go_loop [3] (fun i => ∃ j : Nat, j ≤ s.length ∧ i = .int .i64 j ∧ Hid ((s.take j).all (fun c => c == 32 || c == 9) = true)) (fun i => s.length - (intOf i).toNat)
  case atStart => exact ⟨0, Nat.zero_le _, rfl, Lib.hid rfl⟩
  case round =>
    obtain ⟨j, hj, rfl, hcj⟩ := hrel
    by_cases hjl : j < s.length
    · obtain ⟨qa, hqa⟩ : ∃ qa, qa = (s[j] != 32) := ⟨_, rfl⟩
      obtain ⟨qb, hqb⟩ : ∃ qb, qb = (s[j] != 9) := ⟨_, rfl⟩
      have e1 : ((s[j].toNat : Int) != 32) = qa := by rw [hqa]; exact byte_bne s[j] 32
      have e2 : ((s[j].toNat : Int) != 9) = qb := by rw [hqb]; exact byte_bne s[j] 9
      have hnx : (qa && qb) = false → (s.take (j + 1)).all (fun c => c == 32 || c == 9) = true := fun h => by
        rw [blanks_snoc s j hjl, hcj.out, Bool.true_and]
        rw [hqa, hqb] at h
        revert h
        cases h1 : (s[j] == 32) <;> cases h2 : (s[j] == 9) <;> simp [bne, h1, h2]
      have hbd : (qa && qb) = true → blanksB s = false := fun h => by
        rw [hqa, hqb] at h
        refine blanks_bad s j hjl ?_
        revert h
        cases h1 : (s[j] == 32) <;> cases h2 : (s[j] == 9) <;> simp [bne, h1, h2]
      have HN := Lib.hid (And.intro hnx hbd)
      clear hqa hqb hnx hbd
      cases qa
      · go_wp2
        go_round
        case rel => exact ⟨j + 1, by omega, by go_num, HN.out.1 rfl⟩
        case measure => simp [intOf]; omega
      · cases qb
        · go_wp2
          go_round
          case rel => exact ⟨j + 1, by omega, by go_num, HN.out.1 rfl⟩
          case measure => simp [intOf]; omega
        · go_upto_if 19 with (fail)
          go_wp2
          go_ret
          exact ⟨ret_bool (HN.out.2 rfl).symm, rfl⟩
    · have hall := hcj.out
      rw [List.take_of_length_le (by omega)] at hall
      have HA := Lib.hid (show blanksB s = decide (s.length ≤ 20) by unfold blanksB; rw [hall, Bool.true_and])
      clear hall
      by_cases h20 : s.length ≤ 20
      · have h20i : (s.length : Int) ≤ 20 := by omega
        go_wp2
        go_ret
        exact ⟨ret_bool (by rw [HA.out]; simp; omega), rfl⟩
      · have h20i : ¬ (s.length : Int) ≤ 20 := by omega
        go_wp2
        go_ret
        exact ⟨ret_bool (by rw [HA.out]; simp; omega), rfl⟩
end Go.Proofs.YteiiocibldpioaaDoor
