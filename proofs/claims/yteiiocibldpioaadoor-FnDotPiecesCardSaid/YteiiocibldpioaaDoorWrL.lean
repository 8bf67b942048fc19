/- FnExactDotWrite: the law's walk. -/
import Derived.Test.YteiiocibldpioaaDoorWrH
import Derived.Test.YteiiocibldpioaaDoorSpecQ
import Derived.Test.YteiiocibldpioaaDoorSpecR
import Derived.Test.YteiiocibldpioaaDoorSpecS
import Derived.Test.YteiiocibldpioaaDoorSpecF
import Derived.Deep.RegionWith
namespace Go.Proofs.YteiiocibldpioaaDoor
open Go.RowKit

theorem Below.next {w a b : World} (h : Below w.heap.size w a) (k : Below a.heap.size a b) : Below w.heap.size w b := h.trans (k.mono h.size)
theorem wall_lines_le {D : List UInt8} (hne : D ≠ []) (h13 : 13 ∉ D) (hD : D.length ≤ 1099511627776) : (dtx (linesAcc [] D)).length ≤ 17592186044416 ∧ (linesAcc [] D).length ≤ 17592186044416 := by
  have h1 := (wall_law D hne h13).1
  have h2 := wall_le D
  have h3 := linesAcc_le D []
  have h4 : (dotText (linesAcc [] D)).length = (dtx (linesAcc [] D)).length + 3 := by
    have hdt : dotText (linesAcc [] D) = dtx (linesAcc [] D) ++ [46, 13, 10] := rfl
    rw [hdt, List.length_append]; rfl
  rw [h1, h4] at h2
  exact ⟨by omega, by omega⟩
set_option maxRecDepth 200000 in
set_option maxHeartbeats 12800000 in
theorem lawDotWrite (A : Option Addr) (n c : Nat) (ds : List (List UInt8)) (hn : n = ds.length) (hl : ∀ l ∈ ds, l.length ≤ 9223372036854775807) (hm : ds.length ≤ 9223372036854775807) (w : World) (hr : BL w A ds) :
    Calls Tryd.prog 4 #[.slice A n c] w fun e w' => e = .returned (.bool true) ∧ Below w.heap.size w w' := by
  have hz := zzFits8_any (c := c) hr hn hl hm
  have hbl := blocks_any (c := c) hr hn hl hm
  subst hn
  obtain ⟨b1, hb1⟩ : ∃ b1, b1 = (decide (ds.length ≤ 2147483647) && allLe 2147483647 ds) := ⟨_, rfl⟩
  obtain ⟨b2, hb2⟩ : ∃ b2, b2 = (allLe 16777216 ds && decide (ds.length ≤ 65536)) := ⟨_, rfl⟩
  rw [← hb1] at hz
  rw [← hb2] at hbl
  have H := Lib.hid (And.intro hz hbl)
  have HB := Lib.hid (And.intro hb1 hb2)
  have HR := Lib.hid hr
  clear hz hbl hb1 hb2 hr
  by_cases hgo : b1 = true ∧ b2 = true
  · obtain ⟨rfl, rfl⟩ := hgo
    have hbs := HB.out.2.symm
    rw [Bool.and_eq_true, allLe_iff, decide_eq_true_eq] at hbs
    have hft := blocks_le ds hbs.1 hbs.2
    have hdl : ds.length ≤ 65536 := hbs.2
    have hjn := specJoin_any (c := c) HR.out rfl (by omega) (by omega)
    have hdw := fun (w1 : World) (h1 : Below w.heap.size w w1) => implDotWrite_any (c := c) (HR.out.below h1) rfl (by omega) (by omega)
    have HJ := Lib.hid (And.intro hjn hdw)
    clear hbs hjn hdw
    generalize ds.flatten = D at *
    obtain ⟨b3, hb3⟩ : ∃ b3, b3 = withinB D 13 := ⟨_, rfl⟩
    have HH := Lib.hid hb3
    clear hb3
    by_cases hgo2 : D.length ≠ 0 ∧ b3 = false
    · obtain ⟨hD0, rfl⟩ := hgo2
      have hD0b : ((D.length : Int) == 0) = false := by rw [beq_eq_false_iff_ne]; omega
      have hne : D ≠ [] := by rintro rfl; simp at hD0
      have h13 := withinB_not HH.out.symm
      have hwl := (wall_law D hne h13).1
      have hle := wall_lines_le hne h13 hft
      have HW := Lib.hid (And.intro hwl hle)
      clear hne h13 hwl hle hD0
      go_enter Tryd.func4, Tryd.ntmps4
      go_wp2_with (first
        | (go_at_call 14; refine H.out.1.mono ?_; rintro e w' ⟨rfl, rfl⟩)
        | (go_at_call 15; refine H.out.2.mono ?_; rintro e w' ⟨rfl, rfl⟩)
        | (go_at_call 17; refine HJ.out.1.mono ?_; rintro e w1 ⟨⟨A1, c1, rfl, ho1, hc1, hc1', hr1⟩, hb1⟩; have H1 := Lib.hid (And.intro hr1 hb1); clear ho1 hr1 hb1)
        | (go_at_call 18; refine (has_any H1.out.1 rfl (by omega)).mono ?_; rintro e wq ⟨rfl, hq⟩; subst hq; rw [← HH.out]; refine Hid.out ?_))
      refine Lib.hid ?_
      go_wp2
      have hB0 : Below w.heap.size w w1.drew := H1.out.2.drew
      have hrD : RB w1.drew A1 D := H1.out.1.drewN 1
      have HC := Lib.hid (And.intro hc1 hc1')
      clear hc1 hc1'
      go_region_with (first
        | (go_at_call 16; refine (HJ.out.2 _ (by assumption)).mono ?_; rintro e w6 ⟨⟨A6, c6, rfl, _, _, hr6⟩, hb6⟩; have hB6 := Below.next (w := w) (by assumption) hb6; (try replace hrD := hrD.below hb6); (try replace hsl := hsl.below hb6); (try (replace hr9 := hr9.below hb6; have s9 := run_toStringR (n := (dotText (linesAcc [] D)).length) (c := c9) rfl hr9)); rw [HW.out.1] at hr6; have s6 := run_toStringR (n := (dotText (linesAcc [] D)).length) (c := c6) rfl hr6; rw [HW.out.1]; clear hb6)
        | (go_at_call 20; refine (specLinesB_any rfl HC.out.1 HC.out.2 hrD hft).mono ?_; rintro e w7 ⟨A7, c7, rfl, hsl, hb7⟩; have hB7 := Below.next (w := w) (by assumption) hb7; (try replace hrD := hrD.below hb7); (try (replace hr6 := hr6.below hb7; have s6 := run_toStringR (n := (dotText (linesAcc [] D)).length) (c := c6) rfl hr6)); clear hb7)
        | (go_at_call 19; refine (specDotTextB_any hsl rfl HW.out.2.1 HW.out.2.2).mono ?_; rintro e w8 ⟨⟨A9, c9, rfl, _, hr9⟩, hb9⟩; have hB9 := Below.next (w := w) (by assumption) hb9; have s9 := run_toStringR (n := (dotText (linesAcc [] D)).length) (c := c9) rfl hr9; (try replace hrD := hrD.below hb9); (try (replace hr6 := hr6.below hb9; have s6 := run_toStringR (n := (dotText (linesAcc [] D)).length) (c := c6) rfl hr6)); clear hb9))
      all_goals
        go_wp2
        go_ret
        exact ⟨rfl, by assumption⟩
    · rcases (show D.length = 0 ∨ (D.length ≠ 0 ∧ b3 = true) by
        by_cases h0 : D.length = 0
        · exact .inl h0
        · cases b3
          · exact absurd ⟨h0, rfl⟩ hgo2
          · exact .inr ⟨h0, rfl⟩) with h0 | ⟨h0, rfl⟩
      · have h0i : (D.length : Int) = 0 := by omega
        clear hgo2
        go_enter Tryd.func4, Tryd.ntmps4
        go_wp2_with (first
          | (go_at_call 14; refine H.out.1.mono ?_; rintro e w' ⟨rfl, rfl⟩)
          | (go_at_call 15; refine H.out.2.mono ?_; rintro e w' ⟨rfl, rfl⟩)
          | (go_at_call 17; refine HJ.out.1.mono ?_; rintro e w1 ⟨⟨A1, c1, rfl, ho1, hc1, hc1', hr1⟩, hb1⟩; have H1 := Lib.hid (And.intro hr1 hb1); clear ho1 hr1 hb1))
        go_ret
        exact ⟨rfl, H1.out.2⟩
      · have hD0b : ((D.length : Int) == 0) = false := by rw [beq_eq_false_iff_ne]; omega
        clear hgo2
        go_enter Tryd.func4, Tryd.ntmps4
        go_wp2_with (first
          | (go_at_call 14; refine H.out.1.mono ?_; rintro e w' ⟨rfl, rfl⟩)
          | (go_at_call 15; refine H.out.2.mono ?_; rintro e w' ⟨rfl, rfl⟩)
          | (go_at_call 17; refine HJ.out.1.mono ?_; rintro e w1 ⟨⟨A1, c1, rfl, ho1, hc1, hc1', hr1⟩, hb1⟩; have H1 := Lib.hid (And.intro hr1 hb1); clear ho1 hr1 hb1)
          | (go_at_call 18; refine (has_any H1.out.1 rfl (by omega)).mono ?_; rintro e wq ⟨rfl, hq⟩; subst hq; rw [← HH.out]))
        go_ret
        exact ⟨rfl, H1.out.2⟩
  · clear HR HB
    rcases (show b1 = false ∨ (b1 = true ∧ b2 = false) by
      cases b1
      · exact .inl rfl
      · cases b2
        · exact .inr ⟨rfl, rfl⟩
        · exact absurd ⟨rfl, rfl⟩ hgo) with rfl | ⟨rfl, rfl⟩
    all_goals
      clear hgo
      go_enter Tryd.func4, Tryd.ntmps4
      go_wp2_with (first
        | (go_at_call 14; refine H.out.1.mono ?_; rintro e w' ⟨rfl, rfl⟩)
        | (go_at_call 15; refine H.out.2.mono ?_; rintro e w' ⟨rfl, rfl⟩))
      go_ret
      exact ⟨rfl, Below.refl _ _⟩
end Go.Proofs.YteiiocibldpioaaDoor
