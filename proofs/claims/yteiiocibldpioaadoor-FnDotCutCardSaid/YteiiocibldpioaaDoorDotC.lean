/- FnDotCut: the plain law, and the law's walk. -/
import Derived.Test.YteiiocibldpioaaDoorDotB
namespace Go.Proofs.YteiiocibldpioaaDoor
open Go.RowKit

theorem DotBytesSays.cut {ls : List (List UInt8)} {k : Nat} {R' X : List UInt8} {er : Er} (h : ∀ l ∈ ls, Clean l) (hk : k < (dotText ls).length) (hs : DotBytesSays ((dotText ls).take k) X er R') : er = .sent 2 ∧ R' = [] ∧ X <+: feeds ls := by
  obtain ⟨O, ht, hO⟩ := dots_cut ls k h hk
  rcases hs with ⟨_, h2⟩ | ⟨e1, e2, h2⟩
  · rw [h2] at ht
    injection ht with _ h4
    injection h4 with h4 _
    cases h4
  · rw [h2] at ht
    injection ht with h3 _
    exact ⟨e1, e2, by rw [h3]; exact hO⟩
theorem RB.none_nil' {w : World} {l : List UInt8} (h : RB w none l) : l = [] := by
  rcases l with _ | ⟨b, t⟩
  · rfl
  · obtain ⟨_, _, h, _⟩ := h (by simp)
    cases h
theorem RB.take {w : World} {A : Option Addr} {l : List UInt8} (h : RB w A l) (m : Nat) : RB w A (l.take m) := by
  have e : l = l.take m ++ l.drop m := (List.take_append_drop m l).symm
  rw [e] at h
  exact h.left
set_option maxRecDepth 200000 in
set_option maxHeartbeats 3200000 in
theorem lawDotCut (E : Nat → Addr) (gs : List Nat) (A : Option Addr) (n c : Nat) (ls : List (List UInt8)) (hn : n = ls.length) (hl : ∀ l ∈ ls, l.length ≤ 9223372036854775807) (hm : ls.length ≤ 9223372036854775807) (k : Int) (hk1 : -9223372036854775808 ≤ k ∧ k ≤ 9223372036854775807) (w : World) (hr : SL w A ls) (hs : Sens w E gs)
    (hg : 1 ∈ gs) (hk : 2 ∈ gs) :
    Calls Tryd.prog 6 #[.slice A n c, .int .i64 k] w fun e w' => e = .returned (.bool true) ∧ Below w.heap.size w w' := by
  have hz := zzFits3_any (c := c) hr hn hl hm
  have hbr := brief_any (c := c) hr hn hl hm
  have hdl := fun (w1 : World) (h1 : Below w.heap.size w w1) => dotless_any (c := c) (hr.below h1) hn hl hm
  subst hn
  obtain ⟨b1, hb1⟩ : ∃ b1, b1 = (decide (ls.length ≤ 2147483647) && allLe 2147483647 ls) := ⟨_, rfl⟩
  obtain ⟨b2, hb2⟩ : ∃ b2, b2 = (allLe 16777216 ls && decide (ls.length ≤ 65536)) := ⟨_, rfl⟩
  obtain ⟨b3, hb3⟩ : ∃ b3, b3 = cleansB ls := ⟨_, rfl⟩
  rw [← hb1] at hz
  rw [← hb2] at hbr
  simp only [← hb3] at hdl
  have H := Lib.hid (And.intro hz (And.intro hbr hdl))
  have HB := Lib.hid (And.intro hb1 (And.intro hb2 hb3))
  have HR := Lib.hid (And.intro hr hs)
  clear hz hbr hdl hb1 hb2 hb3 hr hs
  by_cases hgo : b1 = true ∧ b2 = true
  · obtain ⟨rfl, rfl⟩ := hgo
    have hbs := HB.out.2.1.symm
    rw [Bool.and_eq_true, allLe_iff, decide_eq_true_eq] at hbs
    have hdt := dotText_bound ls hbs.1 hbs.2
    have hft := feeds_bound ls hbs.1 hbs.2
    have hdx := specDotText_any (c := c) HR.out.1 rfl hbs.1 hbs.2
    have hfx := fun (w1 : World) (h1 : Below w.heap.size w w1) => specFeeds_any (c := c) (HR.out.1.below h1) rfl (by omega) (by omega)
    have hcl := fun (h : b3 = true) => cleansB_iff.1 (HB.out.2.2.symm.trans h)
    have hlaw := fun {m X R' er} (h3 : b3 = true) (hm : m < (dotText ls).length) (hh : DotBytesSays ((dotText ls).take m) X er R') => hh.cut (hcl h3) hm
    have hii := fun (w1 : World) (A1 : Option Addr) (m c1 : Nat) (h1 : Below w.heap.size w w1) (hm : m ≤ (dotText ls).length) (hr1 : RB w1 A1 ((dotText ls).take m)) => implDot_any (n := m) (c := c1) (HR.out.2.below h1) hg hk (by rw [List.length_take]; omega) hr1 (by rw [List.length_take]; omega)
    have HL := Lib.hid (fun m X R' er (h3 : b3 = true) (hm : m < (dotText ls).length) (hh : DotBytesSays ((dotText ls).take m) X er R') => hlaw h3 hm hh)
    have HI := Lib.hid (And.intro hdx (And.intro hfx hii))
    generalize dotText ls = D at *
    generalize feeds ls = W at *
    clear hcl hbs hdx hfx hlaw hii
    by_cases hin : b3 = true ∧ 0 ≤ k ∧ k < (D.length : Int)
    · obtain ⟨rfl, hk0, hkD⟩ := hin
      obtain ⟨m, rfl⟩ : ∃ m : Nat, k = (m : Int) := ⟨k.toNat, by omega⟩
      have hmD : m < D.length := by omega
      go_enter Tryd.func6, Tryd.ntmps6
      go_wp2_with (first
        | (go_at_call 21; refine H.out.1.mono ?_; rintro e w' ⟨rfl, rfl⟩)
        | (go_at_call 22; refine H.out.2.1.mono ?_; rintro e w' ⟨rfl, rfl⟩)
        | (go_at_call 23; refine (H.out.2.2 _ H1.out.2.2.2).mono ?_; rintro e w' ⟨rfl, rfl⟩)
        | (go_at_call 19; refine HI.out.1.mono ?_; rintro e w1 ⟨⟨A1, c1, rfl, ho1, hr1⟩, hb1⟩; obtain ⟨A1', c1', he1, hc1, hc1', _⟩ := ho1.form; injection he1 with he1 _ he2; subst he2; have H1 := Lib.hid (And.intro ho1 (And.intro hr1 (And.intro he1 hb1))); clear ho1 hr1 hb1 he1)
        | (go_at_call 26; refine (HI.out.2.2 w1 A1 m c1 H1.out.2.2.2 (by omega) (H1.out.2.1.take m)).mono ?_; rintro e w3 ⟨X, A3, c3, er, R, A4, c4, rfl, hsay, hrb1, hrb, hb3⟩; have H3 := Lib.hid (And.intro hrb1 (And.intro hrb (H1.out.2.2.2.trans (hb3.mono H1.out.2.2.2.size)))); have hlw := HL.out _ _ _ _ (by trivial) hmD hsay; obtain ⟨rfl, rfl, hpre⟩ := hlw; have hXW := hpre.length_le; have HX := Lib.hid hpre; clear hsay hrb hrb1 hb3 hpre)
        | (go_at_call 24; refine (HI.out.2.1 _ H3.out.2.2).mono ?_; rintro e w5 ⟨⟨A5, c5, rfl, ho5, hc5, hc5', hr5⟩, hb5⟩; have HS5 := Lib.hid ho5; have H5 := Lib.hid (And.intro hr5 hb5); clear ho5 hr5 hb5; refine Hid.out ?_))
      refine Lib.hid ?_
      have hbd : Below w.heap.size w w5 := H3.out.2.2.trans (H5.out.2.mono H3.out.2.2.size)
      have hXe : W.take X.length = X := by
        obtain ⟨T, hT⟩ := HX.out
        rw [← hT]
        exact List.take_left
      have hX0 : (0 : Int) ≤ (X.length : Int) := by omega
      have hXWi : (X.length : Int) ≤ (W.length : Int) := by omega
      have hr5 := H5.out.1.take X.length
      rw [hXe] at hr5
      have s1 := run_toStringR (n := X.length) (c := c3) rfl (((H3.out.1.below H5.out.2)).drewN 1)
      have s2 := run_toStringR (n := X.length) (c := c5) rfl (hr5.drewN 1)
      replace s1 : (convert 24 9 (.slice A3 X.length c3)).run Tryd.prog w5.drew = .ok (.string ⟨X.toArray⟩) w5.drew := s1
      replace s2 : (convert 24 9 (.slice A5 X.length c5)).run Tryd.prog w5.drew = .ok (.string ⟨X.toArray⟩) w5.drew := s2
      have HBD := Lib.hid hbd
      clear hbd hXe hr5
      simp only [Er.num]
      go_wp2
      have hc5i : (X.length : Int) ≤ (c5 : Int) := by omega
      have hc5n : X.length ≤ c5 := by omega
      rcases HS5.out.shape with rfl | ⟨g5, o5, rfl⟩
      · obtain rfl : W = [] := RB.none_nil' H5.out.1
        obtain rfl : X = [] := List.eq_nil_of_length_eq_zero (by simpa using hXW)
        obtain rfl : c5 = 0 := by
          rcases HS5.out.2 with ⟨h, _⟩ | ⟨g, cap, cur, h, _⟩
          · injection h
          · injection h with h; cases h
        go_region_held3 (fun wx => (convert 24 9 (.slice A3 0 c3)).run Tryd.prog wx = .ok (.string ⟨#[]⟩) wx ∧ (convert 24 9 (.slice none 0 0)).run Tryd.prog wx = .ok (.string ⟨#[]⟩) wx)
          (first | exact ⟨s1, s2⟩ | go_keep)
          (fail)
        go_wp2
        go_ret
        exact ⟨rfl, HBD.out.drew⟩
      · go_region_held3 (fun wx => (convert 24 9 (.slice A3 X.length c3)).run Tryd.prog wx = .ok (.string ⟨X.toArray⟩) wx ∧ (convert 24 9 (.slice (some ⟨g5, o5, none⟩) X.length c5)).run Tryd.prog wx = .ok (.string ⟨X.toArray⟩) wx)
          (first | exact ⟨s1, s2⟩ | go_keep)
          (fail)
        go_wp2
        go_ret
        exact ⟨rfl, HBD.out.drew⟩
    · rcases (show b3 = false ∨ (b3 = true ∧ k < 0) ∨ (b3 = true ∧ 0 ≤ k ∧ (D.length : Int) ≤ k) by
        cases b3
        · exact .inl rfl
        · by_cases h1 : k < 0
          · exact .inr (.inl ⟨rfl, h1⟩)
          · exact .inr (.inr ⟨rfl, by omega, by
              by_cases h2 : k < (D.length : Int)
              · exact absurd ⟨rfl, by omega, h2⟩ hin
              · omega⟩)) with rfl | ⟨rfl, h1⟩ | ⟨rfl, h1, h2⟩
      all_goals
        clear hin HL
        go_enter Tryd.func6, Tryd.ntmps6
        go_wp2_with (first
          | (go_at_call 21; refine H.out.1.mono ?_; rintro e w' ⟨rfl, rfl⟩)
          | (go_at_call 22; refine H.out.2.1.mono ?_; rintro e w' ⟨rfl, rfl⟩)
          | (go_at_call 23; refine (H.out.2.2 _ H1.out).mono ?_; rintro e w' ⟨rfl, rfl⟩)
          | (go_at_call 19; refine HI.out.1.mono ?_; rintro e w1 ⟨⟨A1, c1, rfl, ho1, hr1⟩, hb1⟩; have H1 := Lib.hid hb1; clear ho1 hr1 hb1))
        go_ret
        exact ⟨rfl, H1.out⟩
  · clear HR HB
    rcases (show b1 = false ∨ (b1 = true ∧ b2 = false) by
      cases b1
      · exact .inl rfl
      · cases b2
        · exact .inr ⟨rfl, rfl⟩
        · exact absurd ⟨rfl, rfl⟩ hgo) with rfl | ⟨rfl, rfl⟩
    all_goals
      clear hgo
      go_enter Tryd.func6, Tryd.ntmps6
      go_wp2_with (first
        | (go_at_call 21; refine H.out.1.mono ?_; rintro e w' ⟨rfl, rfl⟩)
        | (go_at_call 22; refine H.out.2.1.mono ?_; rintro e w' ⟨rfl, rfl⟩))
      go_ret
      exact ⟨rfl, Below.refl _ _⟩
end Go.Proofs.YteiiocibldpioaaDoor
