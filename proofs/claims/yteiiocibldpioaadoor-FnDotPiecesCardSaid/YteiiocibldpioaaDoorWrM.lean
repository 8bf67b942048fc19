/- FnDotPieces: the law's walk. -/
import Derived.Test.YteiiocibldpioaaDoorWrL
namespace Go.Proofs.YteiiocibldpioaaDoor
open Go.RowKit

set_option maxRecDepth 200000 in
set_option maxHeartbeats 12800000 in
theorem lawDotPieces (A : Option Addr) (n c : Nat) (ds : List (List UInt8)) (hn : n = ds.length) (hl : ∀ l ∈ ds, l.length ≤ 9223372036854775807) (hm : ds.length ≤ 9223372036854775807) (w : World) (hr : BL w A ds) :
    Calls Tryd.prog 3 #[.slice A n c] w fun e w' => e = .returned (.bool true) ∧ Below w.heap.size w w' := by
  have hz := zzFits8_any (c := c) hr hn hl hm
  have hbl := blocks_any (c := c) hr hn hl hm
  subst hn
  obtain ⟨b1, hb1⟩ : ∃ b1, b1 = (decide (ds.length ≤ 2147483647) && allLe 2147483647 ds) := ⟨_, rfl⟩
  obtain ⟨b2, hb2⟩ : ∃ b2, b2 = (allLe 16777216 ds && decide (ds.length ≤ 65536)) := ⟨_, rfl⟩
  rw [← hb1] at hz
  rw [← hb2] at hbl
  have H := Lib.hid (And.intro hz hbl)
  have HB := Lib.hid (And.intro hb1 hb2)
  have HR := Lib.hid hr
  clear hz hbl hb1 hb2 hr
  by_cases hgo : b1 = true ∧ b2 = true
  · obtain ⟨rfl, rfl⟩ := hgo
    have hbs := HB.out.2.symm
    rw [Bool.and_eq_true, allLe_iff, decide_eq_true_eq] at hbs
    have hft := blocks_le ds hbs.1 hbs.2
    have hdl : ds.length ≤ 65536 := hbs.2
    have hjn := specJoin_any (c := c) HR.out rfl (by omega) (by omega)
    have hdw := fun (w1 : World) (h1 : Below w.heap.size w w1) => implDotWrite_any (c := c) (HR.out.below h1) rfl (by omega) (by omega)
    have HJ := Lib.hid (And.intro hjn hdw)
    clear hbs hjn hdw
    generalize ds.flatten = D at *
    have hone : ∀ (w1 : World) (A1 : Option Addr) (c1 : Nat), D.length ≤ c1 → c1 ≤ 9223372036854775807 → RB w1 A1 D → Calls Tryd.prog 16 #[.slice (some ⟨w1.heap.size, 0, none⟩) 1 1] (w1.alloc (.cells #[.slice A1 D.length c1] 24)) (DotWriteEnd D (w1.alloc (.cells #[.slice A1 D.length c1] 24))) := by
      intro w1 A1 c1 h1 h2 h3
      have h := implDotWrite_any (c := 1) (BL.one w1 A1 D c1 24 _ rfl h1 h2 h3) rfl (by simp; omega) (by simp)
      have e : [D].flatten = D := by simp
      rw [e] at h
      exact h
    have HO := Lib.hid hone
    clear hone
    have hw3 : 3 ≤ (wall D).length := wall_len D
    have hw3i : (2 : Int) < ((wall D).length : Int) := by omega
    go_enter Tryd.func3, Tryd.ntmps3
    go_wp2_with (first
      | (go_at_call 14; refine H.out.1.mono ?_; rintro e w' ⟨rfl, rfl⟩)
      | (go_at_call 15; refine H.out.2.mono ?_; rintro e w' ⟨rfl, rfl⟩)
      | (go_at_call 17; refine HJ.out.1.mono ?_; rintro e w1 ⟨⟨A1, c1, rfl, ho1, hc1, hc1', hr1⟩, hb1⟩; have H1 := Lib.hid (And.intro hr1 (And.intro hb1 (HO.out w1 A1 c1 hc1 hc1' hr1))); clear ho1 hr1 hb1)
      | (go_at_call 16; refine H1.out.2.2.mono ?_; rintro e w2 ⟨⟨A2, c2, rfl, hc2, hc2', hr2⟩, hb2⟩; have H2 := Lib.hid (And.intro hr2 hb2); clear hr2 hb2; refine Hid.out ?_))
    refine Lib.hid ?_
    have hB2 : Below w.heap.size w w2 := (H1.out.2.1.trans ((Below.refl _ _).alloc H1.out.2.1.size _)).trans (H2.out.2.mono (by rw [World.size_alloc]; have := H1.out.2.1.size; omega))
    have HB2 := Lib.hid hB2
    clear hB2
    go_wp2
    have hB0 : Below w.heap.size w w2.drew := HB2.out.drew
    have hr2 : RB w2.drew A2 (wall D) := H2.out.1.drewN 1
    have s2 := run_toStringR (n := (wall D).length) (c := c2) rfl hr2
    go_region_with (first
      | (go_at_call 16; refine (HJ.out.2 _ (by assumption)).mono ?_; rintro e w6 ⟨⟨A6, c6, rfl, _, _, hr6⟩, hb6⟩; have hB6 := Below.next (w := w) (by assumption) hb6; replace hr2 := hr2.below hb6; have s3 := run_toStringR (n := (wall D).length) (c := c2) rfl hr2; have s6 := run_toStringR (n := (wall D).length) (c := c6) rfl hr6; clear hb6))
    all_goals
      go_wp2
      go_ret
      exact ⟨rfl, by assumption⟩
  · clear HR HB
    rcases (show b1 = false ∨ (b1 = true ∧ b2 = false) by
      cases b1
      · exact .inl rfl
      · cases b2
        · exact .inr ⟨rfl, rfl⟩
        · exact absurd ⟨rfl, rfl⟩ hgo) with rfl | ⟨rfl, rfl⟩
    all_goals
      clear hgo
      go_enter Tryd.func3, Tryd.ntmps3
      go_wp2_with (first
        | (go_at_call 14; refine H.out.1.mono ?_; rintro e w' ⟨rfl, rfl⟩)
        | (go_at_call 15; refine H.out.2.mono ?_; rintro e w' ⟨rfl, rfl⟩))
      go_ret
      exact ⟨rfl, Below.refl _ _⟩
end Go.Proofs.YteiiocibldpioaaDoor
