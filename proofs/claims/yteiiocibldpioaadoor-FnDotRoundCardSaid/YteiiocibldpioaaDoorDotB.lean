/- FnExactDot: the plain law, and the law's walk. -/
import Derived.Test.YteiiocibldpioaaDoorDotA
import Derived.Test.YteiiocibldpioaaDoorSpecF
import Derived.Test.YteiiocibldpioaaDoorSpecL
import Derived.Test.YteiiocibldpioaaDoorStrs
import Derived.Deep.RegionWith
namespace Go.Proofs.YteiiocibldpioaaDoor
open Go.RowKit

theorem DotBytesSays.text {ls : List (List UInt8)} {R R' X : List UInt8} {er : Er} (h : ∀ l ∈ ls, Clean l) (hs : DotBytesSays (dotText ls ++ R) X er R') : X = feeds ls ∧ er = .nil ∧ R' = R := by
  have ht := dots_text ls R h
  rcases hs with ⟨e1, h2⟩ | ⟨_, _, h2⟩
  · rw [h2] at ht
    injection ht with h3 h4
    injection h4 with _ h4
    exact ⟨h3, e1, h4⟩
  · rw [h2] at ht
    injection ht with _ h4
    injection h4 with h4 _
    cases h4
theorem feeds_bound (ls : List (List UInt8)) (h : ∀ l ∈ ls, l.length ≤ 16777216) (hm : ls.length ≤ 65536) : (feeds ls).length ≤ 1099511824384 := by
  have h1 : ∀ (l : List (List UInt8)), (∀ x ∈ l, x.length ≤ 16777216) → (feeds l).length ≤ l.length * 16777217 := by
    intro l
    induction l with
    | nil => intro _; simp [feeds]
    | cons x t ih =>
      intro h
      have h1 := h x (List.mem_cons_self ..)
      have h2 := ih (fun y hy => h y (List.mem_cons_of_mem _ hy))
      have e : feeds (x :: t) = x ++ [10] ++ feeds t := by simp [feeds]
      rw [e, List.length_append, List.length_append]
      simp only [List.length_cons, List.length_nil]
      omega
  have h2 := h1 ls h
  have h3 : ls.length * 16777217 ≤ 65536 * 16777217 := Nat.mul_le_mul hm (Nat.le_refl _)
  omega
theorem dotText_bound (ls : List (List UInt8)) (h : ∀ l ∈ ls, l.length ≤ 16777216) (hm : ls.length ≤ 65536) : (dotText ls).length ≤ 1099511824387 := by
  have h1 := dtx_le ls 16777216 h
  have h2 : ls.length * (16777216 + 3) ≤ 65536 * 16777219 := Nat.mul_le_mul hm (by omega)
  have h3 : (dotText ls).length = (dtx ls).length + 3 := by unfold dotText dtx; rw [List.length_append]; rfl
  omega
set_option maxRecDepth 200000 in
set_option maxHeartbeats 3200000 in
theorem lawDot (E : Nat → Addr) (gs : List Nat) (A : Option Addr) (n c : Nat) (ls : List (List UInt8)) (hn : n = ls.length) (hl : ∀ l ∈ ls, l.length ≤ 9223372036854775807) (hm : ls.length ≤ 9223372036854775807) (B : Option Addr) (nr d : Nat) (rest : List UInt8) (hnr : nr = rest.length) (hrl : rest.length ≤ 9223372036854775807) (w : World) (hr : SL w A ls) (hb : RB w B rest) (hs : Sens w E gs)
    (hg : 1 ∈ gs) (hk : 2 ∈ gs) :
    Calls Tryd.prog 7 #[.slice A n c, .slice B nr d] w fun e w' => e = .returned (.bool true) ∧ Below w.heap.size w w' := by
  subst hnr
  have hz := zzFits3_any (c := c) hr hn hl hm
  have hbr := brief_any (c := c) hr hn hl hm
  have hdl := dotless_any (c := c) hr hn hl hm
  subst hn
  obtain ⟨b1, hb1⟩ : ∃ b1, b1 = (decide (ls.length ≤ 2147483647) && allLe 2147483647 ls) := ⟨_, rfl⟩
  obtain ⟨b2, hb2⟩ : ∃ b2, b2 = (allLe 16777216 ls && decide (ls.length ≤ 65536)) := ⟨_, rfl⟩
  obtain ⟨b3, hb3⟩ : ∃ b3, b3 = cleansB ls := ⟨_, rfl⟩
  rw [← hb1] at hz
  rw [← hb2] at hbr
  rw [← hb3] at hdl
  have H := Lib.hid (And.intro hz (And.intro hbr hdl))
  have HB := Lib.hid (And.intro hb1 (And.intro hb2 hb3))
  have HR := Lib.hid (And.intro hr (And.intro hb hs))
  clear hz hbr hdl hb1 hb2 hb3 hr hb hs
  by_cases hgo : b1 = true ∧ b2 = true ∧ b3 = true ∧ rest.length ≤ 16777216
  · obtain ⟨rfl, rfl, rfl, hr24⟩ := hgo
    have hcl := cleansB_iff.1 HB.out.2.2.symm
    have hbs := HB.out.2.1.symm
    rw [Bool.and_eq_true, allLe_iff, decide_eq_true_eq] at hbs
    have hdt := dotText_bound ls hbs.1 hbs.2
    have hft := feeds_bound ls hbs.1 hbs.2
    have hdx := specDotText_any (c := c) HR.out.1 rfl hbs.1 hbs.2
    have hfx := fun (w1 : World) (h1 : Below w.heap.size w w1) => specFeeds_any (c := c) (HR.out.1.below h1) rfl (by omega) (by omega)
    have hlaw := fun {X R' er} (hh : DotBytesSays (dotText ls ++ rest) X er R') => hh.text hcl
    have hii := fun (w1 : World) (A1 : Option Addr) (n1 c1 : Nat) (h1 : Below w.heap.size w w1) (hn1 : n1 = (dotText ls ++ rest).length) (hr1 : RB w1 A1 (dotText ls ++ rest)) => implDot_any (c := c1) (HR.out.2.2.below h1) hg hk hn1 hr1 (by rw [List.length_append]; omega)
    have HL := Lib.hid (fun X R' er (hh : DotBytesSays (dotText ls ++ rest) X er R') => hlaw hh)
    have HI := Lib.hid (And.intro hdx (And.intro hfx hii))
    generalize dotText ls = D at *
    generalize feeds ls = W at *
    clear hcl hbs hdx hfx hlaw hii
    go_enter Tryd.func7, Tryd.ntmps7
    go_wp2_with (first
      | (go_at_call 21; refine H.out.1.mono ?_; rintro e w' ⟨rfl, rfl⟩)
      | (go_at_call 22; refine H.out.2.1.mono ?_; rintro e w' ⟨rfl, rfl⟩)
      | (go_at_call 23; refine H.out.2.2.mono ?_; rintro e w' ⟨rfl, rfl⟩)
      | (go_at_call 19; refine HI.out.1.mono ?_; rintro e w1 ⟨⟨A1, c1, rfl, ho1, hr1⟩, hb1⟩; have H1 := Lib.hid (And.intro ho1 (And.intro hr1 hb1)); clear ho1 hr1 hb1)
      | ((with_reducible refine at_appendB ?_); refine wpList_append_B rfl (.tmp 29) (.tmp 30) rfl w.heap.size (.slice A1 D.length c1) D rfl H1.out.1 B rest rest.length d rfl rfl (HR.out.2.1.below H1.out.2.2) (by omega) H1.out.2.2.size (D.length + rest.length) rfl (D ++ rest) rfl ?_; intro A2 c2 w2 hap; have HP := Lib.hid (And.intro hap (H1.out.2.2.trans ((Below.refl _ _).grown hap.grown H1.out.2.2.size (fun k hk => (H1.out.1.lt k hk).1)))); clear hap)
      | (go_at_call 26; refine (HI.out.2.2 w2 A2 _ c2 HP.out.2 (by rw [List.length_append]) HP.out.1.read).mono ?_; rintro e w3 ⟨X, A3, c3, er, R, A4, c4, rfl, hsay, hrb1, hrb, hb3⟩; have H3 := Lib.hid (And.intro hrb1 (And.intro hrb (HP.out.2.trans (hb3.mono HP.out.2.size)))); obtain ⟨rfl, rfl, rfl⟩ := HL.out _ _ _ hsay; clear hsay hrb hrb1 hb3; refine Hid.out ?_))
    refine Lib.hid ?_
    simp only [Er.num]
    go_wp2
    have st1 := run_toStringR (n := X.length) (c := c3) rfl (H3.out.1.drewN 1)
    have st2 := run_toStringR (n := R.length) (c := c4) rfl (H3.out.2.1.drewN 1)
    have st3 := run_toStringR (n := R.length) (c := d) rfl ((HR.out.2.1.below H3.out.2.2).drewN 1)
    have hw3 : Below w.heap.size w w3.drew := H3.out.2.2.drew
    have HW := Lib.hid hw3
    clear hw3
    replace st1 : (convert 24 9 (.slice A3 X.length c3)).run Tryd.prog w3.drew = .ok (.string ⟨X.toArray⟩) w3.drew := st1
    replace st2 : (convert 24 9 (.slice A4 R.length c4)).run Tryd.prog w3.drew = .ok (.string ⟨R.toArray⟩) w3.drew := st2
    replace st3 : (convert 24 9 (.slice B R.length d)).run Tryd.prog w3.drew = .ok (.string ⟨R.toArray⟩) w3.drew := st3
    go_region_with (first | (go_at_call 24; refine (HI.out.2.1 _ HW.out).mono ?_; rintro e w5 ⟨⟨A5, c5, rfl, ho5, hc5, hc5', hr5⟩, hb5⟩; have s4 := run_toStringR (n := X.length) (c := c5) rfl hr5; have s1 := run_toStringR (n := X.length) (c := c3) rfl ((H3.out.1.drewN 1).below hb5); have s2 := run_toStringR (n := R.length) (c := c4) rfl ((H3.out.2.1.drewN 1).below hb5); have s3 := run_toStringR (n := R.length) (c := d) rfl (((HR.out.2.1.below H3.out.2.2).drewN 1).below hb5); have H5 := Lib.hid hb5; clear ho5 hc5 hc5' hr5 hb5))
    all_goals
      go_wp2
      go_ret
      exact ⟨rfl, HW.out.trans (H5.out.mono HW.out.size)⟩
  · clear HR HB
    rcases (show b1 = false ∨ (b1 = true ∧ 2147483647 < rest.length) ∨ (b1 = true ∧ b2 = false ∧ rest.length ≤ 2147483647) ∨ (b1 = true ∧ b2 = true ∧ rest.length ≤ 2147483647 ∧ 16777216 < rest.length) ∨ (b1 = true ∧ b2 = true ∧ b3 = false ∧ rest.length ≤ 16777216) by
      cases b1
      · exact .inl rfl
      · by_cases h1 : 2147483647 < rest.length
        · exact .inr (.inl ⟨rfl, h1⟩)
        · cases b2
          · exact .inr (.inr (.inl ⟨rfl, rfl, by omega⟩))
          · by_cases h2 : 16777216 < rest.length
            · exact .inr (.inr (.inr (.inl ⟨rfl, rfl, by omega, h2⟩)))
            · cases b3
              · exact .inr (.inr (.inr (.inr ⟨rfl, rfl, rfl, by omega⟩)))
              · exact absurd ⟨rfl, rfl, rfl, by omega⟩ hgo) with rfl | ⟨rfl, h1⟩ | ⟨rfl, rfl, h1⟩ | ⟨rfl, rfl, h1, h2⟩ | ⟨rfl, rfl, rfl, h1⟩
    all_goals
      clear hgo
      go_enter Tryd.func7, Tryd.ntmps7
      go_wp2_with (first
        | (go_at_call 21; refine H.out.1.mono ?_; rintro e w' ⟨rfl, rfl⟩)
        | (go_at_call 22; refine H.out.2.1.mono ?_; rintro e w' ⟨rfl, rfl⟩)
        | (go_at_call 23; refine H.out.2.2.mono ?_; rintro e w' ⟨rfl, rfl⟩))
      go_ret
      exact ⟨rfl, Below.refl _ _⟩
end Go.Proofs.YteiiocibldpioaaDoor
