/- The walks of the reference's Paired and Returned. -/
import Derived.Test.YteiiocibldpioaaDoorBoth
import Derived.Deep.LoopGhost
namespace Go.Proofs.YteiiocibldpioaaDoor
open Go.RowKit

def pairedB (S : List UInt8) : Bool := decide (∀ i, i < S.length → S[i]? = some 13 → S[i + 1]? = some 10)
def returnedB (S : List UInt8) : Bool := decide (∀ i, i < S.length → S[i]? = some 10 → 0 < i ∧ S[i - 1]? = some 13)
theorem get_lt {S : List UInt8} {i : Nat} {c : UInt8} (h : S[i]? = some c) : i < S.length := by
  rcases Nat.lt_or_ge i S.length with h' | h'
  · exact h'
  · rw [List.getElem?_eq_none h'] at h; cases h
theorem pairedB_iff {S : List UInt8} (h : pairedB S = true) : PairedP S := fun i hi => of_decide_eq_true h i (get_lt hi) hi
theorem returnedB_iff {S : List UInt8} (h : returnedB S = true) : ReturnedP S := fun i hi => by
  obtain ⟨h1, h2⟩ := of_decide_eq_true h i (get_lt hi) hi
  exact ⟨i - 1, by omega, h2⟩
theorem byte_ne_iff {c d : UInt8} (h : c ≠ d) : ((c.toNat : Int) == (d.toNat : Int)) = false := by
  rw [beq_eq_false_iff_ne]
  exact fun e => h ((byte_eq_iff c d).1 e)
theorem specPaired_any {w : World} {A : Option Addr} {n c : Nat} {S : List UInt8} (hr : RB w A S) (hn : n = S.length) (hS : S.length ≤ 17592186044416) :
    Calls Tryd.prog 37 #[.slice A n c] w fun e w' => e = .returned (.bool (pairedB S)) ∧ w = w' := by
  subst hn
  have HX := Lib.hid hr
  clear hr
  go_enter Tryd.func37, Tryd.ntmps37
  go_wp2
  go_loopg [3, 4, 7] (S.length) (fun gk _ _ u7 wr => ∃ k : Nat, k + gk = S.length ∧ u7 = .int .i64 k ∧ Hid (∀ i, i < k → S[i]? = some 13 → S[i + 1]? = some 10) ∧ wr = w)
  case atStart => exact ⟨0, by omega, rfl, Lib.hid (fun i h => by omega), rfl⟩
  case round =>
    obtain ⟨k, hk, rfl, hall, rfl⟩ := hrel
    by_cases hlt : k < S.length
    · obtain ⟨b, hb⟩ : ∃ b, S[k]? = some b := ⟨_, List.getElem?_eq_getElem hlt⟩
      obtain ⟨g, o, rfl, hx⟩ := HX.out (by rintro rfl; simp at hlt)
      have hcell := hx k b hb
      have HB := Lib.hid hb
      have HX2 := Lib.hid hx
      clear hb hx
      by_cases h13 : b = 13
      · subst h13
        by_cases hlast : k + 1 = S.length
        · have hi : (k : Int) + 1 = (S.length : Int) := by omega
          have hres : pairedB S = false := decide_eq_false (fun h => by
            have h1 := h k hlt HB.out
            rw [List.getElem?_eq_none (by omega)] at h1
            cases h1)
          have HR := Lib.hid hres
          clear hres
          go_wp2
          go_ret
          exact ⟨by rw [HR.out]; rfl, rfl⟩
        · have hi : ¬ (k : Int) + 1 = (S.length : Int) := by omega
          have hib : ((k : Int) + 1 == (S.length : Int)) = false := by rw [beq_eq_false_iff_ne]; omega
          obtain ⟨b2, hb2⟩ : ∃ b, S[k + 1]? = some b := ⟨_, List.getElem?_eq_getElem (by omega)⟩
          have hcell2 := HX2.out (k + 1) b2 hb2
          have HB2 := Lib.hid hb2
          clear hb2
          by_cases h10 : b2 = 10
          · subst h10
            go_wp2
            go_roundg (gk - 1)
            case measure => omega
            case rel => exact ⟨k + 1, by omega, by go_num, Lib.hid (fun i hi h => by
              rcases Nat.lt_or_ge i k with h' | h'
              · exact hall.out i h' h
              · have : i = k := by omega
                subst this
                exact HB2.out), rfl⟩
          · have h10b : ((b2.toNat : Int) == 10) = false := byte_ne_iff (d := 10) h10
            have hres : pairedB S = false := decide_eq_false (fun h => by
              have h1 := h k hlt HB.out
              rw [HB2.out] at h1
              injection h1 with h1
              exact h10 h1)
            have HR := Lib.hid hres
            clear hres h10
            go_wp2
            go_ret
            exact ⟨by rw [HR.out]; rfl, rfl⟩
      · have h13b : ((b.toNat : Int) == 13) = false := byte_ne_iff (d := 13) h13
        have HN := Lib.hid h13
        clear h13
        go_wp2
        go_roundg (gk - 1)
        case measure => omega
        case rel => exact ⟨k + 1, by omega, by go_num, Lib.hid (fun i hi h => by
          rcases Nat.lt_or_ge i k with h' | h'
          · exact hall.out i h' h
          · have : i = k := by omega
            subst this
            rw [HB.out] at h
            injection h with h
            exact absurd h HN.out), rfl⟩
    · have hres : pairedB S = true := decide_eq_true (fun i hi h => hall.out i (by omega) h)
      have HR := Lib.hid hres
      clear hres
      go_wp2
      go_ret
      exact ⟨by rw [HR.out]; rfl, rfl⟩
theorem specReturned_any {w : World} {A : Option Addr} {n c : Nat} {S : List UInt8} (hr : RB w A S) (hn : n = S.length) (hS : S.length ≤ 17592186044416) :
    Calls Tryd.prog 38 #[.slice A n c] w fun e w' => e = .returned (.bool (returnedB S)) ∧ w = w' := by
  subst hn
  have HX := Lib.hid hr
  clear hr
  go_enter Tryd.func38, Tryd.ntmps38
  go_wp2
  go_loopg [3, 4, 7] (S.length) (fun gk _ _ u7 wr => ∃ k : Nat, k + gk = S.length ∧ u7 = .int .i64 k ∧ Hid (∀ i, i < k → S[i]? = some 10 → 0 < i ∧ S[i - 1]? = some 13) ∧ wr = w)
  case atStart => exact ⟨0, by omega, rfl, Lib.hid (fun i h => by omega), rfl⟩
  case round =>
    obtain ⟨k, hk, rfl, hall, rfl⟩ := hrel
    by_cases hlt : k < S.length
    · obtain ⟨b, hb⟩ : ∃ b, S[k]? = some b := ⟨_, List.getElem?_eq_getElem hlt⟩
      obtain ⟨g, o, rfl, hx⟩ := HX.out (by rintro rfl; simp at hlt)
      have hcell := hx k b hb
      have HB := Lib.hid hb
      have HX2 := Lib.hid hx
      clear hb hx
      by_cases h10 : b = 10
      · subst h10
        by_cases hk0 : k = 0
        · have hres : returnedB S = false := decide_eq_false (fun h => by
            have h1 := (h k hlt HB.out).1
            omega)
          have HR := Lib.hid hres
          clear hres
          subst hk0
          have hcell0 : wr.cell? ⟨g, o, none⟩ = some (.int .u8 (UInt8.toNat 10 : Nat)) := hcell
          have hpos : (0 : Int) < (S.length : Int) := by omega
          go_wp2
          go_ret
          exact ⟨by rw [HR.out]; rfl, rfl⟩
        · obtain ⟨m, hm⟩ : ∃ m, k = m + 1 := ⟨k - 1, by omega⟩
          obtain ⟨b2, hb2⟩ : ∃ b, S[m]? = some b := ⟨_, List.getElem?_eq_getElem (by omega)⟩
          have hcell2 := HX2.out m b2 hb2
          have hi : ((k : Int) == 0) = false := by rw [beq_eq_false_iff_ne]; omega
          have hw1 : (k : Int) - 1 = (m : Int) := by omega
          have hmn : m < S.length := by omega
          have HB2 := Lib.hid (And.intro hb2 hm)
          clear hb2 hm
          by_cases h13 : b2 = 13
          · subst h13
            go_wp2
            go_roundg (gk - 1)
            case measure => omega
            case rel => exact ⟨k + 1, by omega, by go_num, Lib.hid (fun i hi h => by
              rcases Nat.lt_or_ge i k with h' | h'
              · exact hall.out i h' h
              · have : i = k := by omega
                subst this
                exact ⟨by omega, by rw [show i - 1 = m by have := HB2.out.2; omega]; exact HB2.out.1⟩), rfl⟩
          · have h13b : ((b2.toNat : Int) == 13) = false := byte_ne_iff (d := 13) h13
            have hres : returnedB S = false := decide_eq_false (fun h => by
              have h1 := (h k hlt HB.out).2
              rw [show k - 1 = m by have := HB2.out.2; omega, HB2.out.1] at h1
              injection h1 with h1
              exact h13 h1)
            have HR := Lib.hid hres
            clear hres h13
            go_wp2
            go_ret
            exact ⟨by rw [HR.out]; rfl, rfl⟩
      · have h10b : ((b.toNat : Int) == 10) = false := byte_ne_iff (d := 10) h10
        have HN := Lib.hid h10
        clear h10
        go_wp2
        go_roundg (gk - 1)
        case measure => omega
        case rel => exact ⟨k + 1, by omega, by go_num, Lib.hid (fun i hi h => by
          rcases Nat.lt_or_ge i k with h' | h'
          · exact hall.out i h' h
          · have : i = k := by omega
            subst this
            rw [HB.out] at h
            injection h with h
            exact absurd h HN.out), rfl⟩
    · have hres : returnedB S = true := decide_eq_true (fun i hi h => hall.out i (by omega) h)
      have HR := Lib.hid hres
      clear hres
      go_wp2
      go_ret
      exact ⟨by rw [HR.out]; rfl, rfl⟩
end Go.Proofs.YteiiocibldpioaaDoor
