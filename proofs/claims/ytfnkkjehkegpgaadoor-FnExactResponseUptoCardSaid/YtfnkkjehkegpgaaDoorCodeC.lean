/- FnBadCode and FnExactCode: the plain law (what parseCodeLine gives of a line against the reference's Coded, and of digits, a separator and a message), and the two laws' walks. -/
import Derived.Test.YtfnkkjehkegpgaaDoorCodeB
namespace Go.Proofs.YtfnkkjehkegpgaaDoor
open Go.RowKit

theorem digitVal_yes {x : UInt8} (h : digB x = true) : Lib.digitVal x = some (x.toNat - 48) := by
  unfold digB at h
  rw [decide_eq_true_eq] at h
  unfold Lib.digitVal
  rw [if_pos h]
theorem digitVal_no {x : UInt8} (h : digB x = false) : Lib.digitVal x = none := by
  unfold digB at h
  rw [decide_eq_false_iff_not] at h
  unfold Lib.digitVal
  rw [if_neg h]
theorem digB_bounds {x : UInt8} (h : digB x = true) : 48 ≤ x.toNat ∧ x.toNat ≤ 57 := by
  unfold digB at h
  rwa [decide_eq_true_eq] at h
theorem sign_no {a : UInt8} (h : digB a = true) : (a == 45) = false ∧ (a == 43) = false := by
  have := digB_bounds h
  constructor
  · rw [beq_eq_false_iff_ne]; rintro rfl; simp at this
  · rw [beq_eq_false_iff_ne]; rintro rfl; simp at this
theorem atoi_digits {a b c : UInt8} (ha : digB a = true) (hb : digB b = true) (hc : digB c = true) :
    Lib.atoi [a, b, c] = some (100 * ((a.toNat : Int) - 48) + 10 * ((b.toNat : Int) - 48) + ((c.toNat : Int) - 48)) := by
  obtain ⟨h1, h2⟩ := sign_no ha
  have hA := digB_bounds ha
  have hB := digB_bounds hb
  have hC := digB_bounds hc
  simp only [Lib.atoi, h1, h2, Lib.decNat, Lib.decFrom, digitVal_yes ha, digitVal_yes hb, digitVal_yes hc, List.isEmpty_cons, Bool.false_eq_true, if_false, Option.map_some, Option.some.injEq]
  omega
theorem atoi_low {a b c : UInt8} (h : (digB a && digB b && digB c) = false) : Lib.atoi [a, b, c] = none ∨ ∃ n, Lib.atoi [a, b, c] = some n ∧ n < 100 := by
  have h2 : ∀ k : Nat, Lib.decNat [b, c] = some k → k ≤ 99 := fun k h => by
    simp only [Lib.decNat, Lib.decFrom, List.isEmpty_cons, Bool.false_eq_true, if_false] at h
    cases hx : digB b with
    | false => simp [digitVal_no hx] at h
    | true =>
      cases hy : digB c with
      | false => simp [digitVal_yes hx, digitVal_no hy] at h
      | true =>
        have := digB_bounds hx
        have := digB_bounds hy
        simp [digitVal_yes hx, digitVal_yes hy] at h
        omega
  simp only [Lib.atoi]
  split
  · cases hk : Lib.decNat [b, c] with
    | none => exact .inl rfl
    | some k => have := h2 k hk; exact .inr ⟨_, rfl, by show _ < _; dsimp only; omega⟩
  · split
    · cases hk : Lib.decNat [b, c] with
      | none => exact .inl rfl
      | some k => have := h2 k hk; exact .inr ⟨_, rfl, by show _ < _; dsimp only; omega⟩
    · refine .inl ?_
      simp only [Lib.decNat, Lib.decFrom, List.isEmpty_cons, Bool.false_eq_true, if_false]
      cases hx : digB a with
      | false => simp [digitVal_no hx]
      | true =>
        cases hy : digB b with
        | false => simp [digitVal_yes hx, digitVal_no hy]
        | true =>
          cases hz : digB c with
          | false => simp [digitVal_yes hx, digitVal_yes hy, digitVal_no hz]
          | true => rw [hx, hy, hz] at h; cases h
theorem codeErr_zero (n : Int) : codeErr n 0 = 0 := (codeErr_yes (by omega)).symm
/-- The plain law of FnBadCode. -/
theorem bad_law (l : List UInt8) : (parseL 0 l).2.2.2 = if codedL l then 0 else 3 := by
  rcases l with _ | ⟨a, _ | ⟨b, _ | ⟨c, _ | ⟨d, m⟩⟩⟩⟩
  case cons.cons.cons.cons =>
    by_cases hd : d = 32 ∨ d = 45
    · cases h : (digB a && digB b && digB c) with
      | false =>
        rcases atoi_low h with h1 | ⟨n, h1, h2⟩
        · simp [parseL, codedL, hd, h, h1]
        · simp [parseL, codedL, hd, h, h1, h2]
      | true =>
        simp only [Bool.and_eq_true] at h
        have h1 := atoi_digits h.1.1 h.1.2 h.2
        have hA := digB_bounds h.1.1
        have hB := digB_bounds h.1.2
        have hC := digB_bounds h.2
        by_cases h0 : (a.toNat : Int) = 48
        · have hlt : 100 * ((a.toNat : Int) - 48) + 10 * ((b.toNat : Int) - 48) + ((c.toNat : Int) - 48) < 100 := by omega
          simp only [parseL, codedL, if_pos hd, h1, if_pos hlt, h.1.1, h.1.2, h.2]
          simp [h0]
        · have hlt : ¬ 100 * ((a.toNat : Int) - 48) + 10 * ((b.toNat : Int) - 48) + ((c.toNat : Int) - 48) < 100 := by omega
          simp only [parseL, codedL, if_pos hd, h1, if_neg hlt, h.1.1, h.1.2, h.2, codeErr_zero]
          simp [hd, h0]
    · simp [parseL, codedL, hd]
  all_goals rfl
theorem digB_dig {k : Int} (h1 : 0 ≤ k) (h2 : k < 10) : digB (dig k) = true := by
  have := dig_toNat h1 h2
  exact digB_yes (by omega) (by omega)
/-- The plain law of FnExactCode. -/
theorem code_law (n x : Int) (h1 : 100 ≤ n) (h2 : n ≤ 999) (d : UInt8) (hd : d = 32 ∨ d = 45) (m : List UInt8) : parseL x (digitsL n ++ d :: m) = (n, d == 45, m, codeErr n x) := by
  have hn : 100 * (((dig (n / 100)).toNat : Int) - 48) + 10 * (((dig (n / 10 % 10)).toNat : Int) - 48) + (((dig (n % 10)).toNat : Int) - 48) = n := by
    rw [dig_toNat (by omega) (by omega), dig_toNat (by omega) (by omega), dig_toNat (by omega) (by omega)]; omega
  have ha := atoi_digits (digB_dig (k := n / 100) (by omega) (by omega)) (digB_dig (k := n / 10 % 10) (by omega) (by omega)) (digB_dig (k := n % 10) (by omega) (by omega))
  rw [hn] at ha
  simp [parseL, digitsL, hd, ha, show ¬ n < 100 by omega]
theorem codeErr_cases (n x : Int) : codeErr n x = 0 ∧ fitsN n x = true ∨ codeErr n x = 4 ∧ fitsN n x = false := by
  unfold codeErr
  cases fitsN n x <;> simp

theorem lawBadCode (E : Nat → Addr) (gs : List Nat) (l : List UInt8) (hl : l.length ≤ 9223372036854775807) (w : World) (hs : Sens w E gs) (hg : 5 ∈ gs) (h0 : 0 ∈ gs) (h1 : 1 ∈ gs) :
    Calls Tryd.prog 4 #[.string ⟨l.toArray⟩] w fun e w' => e = .returned (.bool true) ∧ Below w.heap.size w w' := by
  have hlaw := bad_law l
  have hid := Lib.hid hlaw
  clear hlaw
  go_enter Tryd.func4, Tryd.ntmps4
  cases hc : codedL l
  all_goals
    have hid2 := hid.out
    rw [hc] at hid2
    simp only [Bool.false_eq_true, if_false, if_true] at hid2
    go_wp2_with (first
      | (go_at_call 14; refine (implCode_any E gs l 0 hl _ hs hg h0 h1).mono ?_; rintro e w1 ⟨rfl, hb⟩; rw [hid2])
      | (go_at_call 15; refine (specCoded_any l hl _).mono ?_; rw [hc]; rintro e w' ⟨rfl, rfl⟩))
    all_goals go_ret
    all_goals first
      | exact ⟨rfl, hb⟩
      | exact ⟨rfl, Below.refl _ _⟩
end Go.Proofs.YtfnkkjehkegpgaaDoor
