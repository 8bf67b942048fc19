/- FnExactDotLines: the plain law, and the law's walk. -/
import Derived.Test.YteiiocibldpioaaDoorDotM
import Derived.Test.YteiiocibldpioaaDoorSpecM
import Derived.Test.YteiiocibldpioaaDoorLinesY
namespace Go.Proofs.YteiiocibldpioaaDoor
open Go.RowKit

theorem esc_ne (l : List UInt8) : esc l ≠ [46] := by
  cases l with
  | nil => simp [esc]
  | cons c t =>
    by_cases hc : c = 46
    · subst hc; simp [esc]
    · simp [esc, hc]
theorem undot_esc (l : List UInt8) : undot (esc l) = l := by
  cases l with
  | nil => rfl
  | cons c t =>
    by_cases hc : c = 46
    · subst hc; simp [esc, undot]
    · simp [esc, hc, undot]
theorem esc_no10 {l : List UInt8} (h : Clean l) : 10 ∉ esc l ++ [13] := by
  rw [List.mem_append, not_or]
  refine ⟨fun hm => ?_, by decide⟩
  unfold esc at hm
  split at hm
  · rcases List.mem_cons.1 hm with e | e
    · cases e
    · exact (h 10 e).2 rfl
  · exact (h 10 hm).2 rfl
theorem dotText_cons (l : List UInt8) (t : List (List UInt8)) (R : List UInt8) : dotText (l :: t) ++ R = (esc l ++ [13]) ++ 10 :: (dotText t ++ R) := by simp [dotText]
/-- The plain law. -/
theorem DotLinesSays.text {ls ls' : List (List UInt8)} {R R' : List UInt8} {er : Er} (h : ∀ l ∈ ls, Clean l) (hs : DotLinesSays (dotText ls ++ R) ls' er R') : ls' = ls ∧ er = .nil ∧ R' = R := by
  induction ls generalizing ls' with
  | nil =>
    have hS : dotText [] ++ R = [46, 13] ++ 10 :: R := by simp [dotText]
    have ha : (10 : UInt8) ∉ ([46, 13] : List UInt8) := by decide
    have hd : dropCR ([46, 13] : List UInt8) = [46] := dropCR_cr [46]
    cases hs with
    | cut h1 he => exact absurd (h1.line hS ha).1 he
    | stop h1 => exact ⟨rfl, rfl, (h1.line hS ha).2.2⟩
    | go h1 hne _ => exact absurd ((h1.line hS ha).2.1.trans hd) hne
  | cons l t ih =>
    have hc := h l (List.mem_cons_self ..)
    have hS := dotText_cons l t R
    have ha := esc_no10 hc
    have hd : dropCR (esc l ++ [13]) = esc l := dropCR_cr _
    cases hs with
    | cut h1 he => exact absurd (h1.line hS ha).1 he
    | stop h1 =>
      have := (h1.line hS ha).2.1
      rw [hd] at this
      exact absurd this.symm (esc_ne l)
    | go h1 hne h2 =>
      obtain ⟨_, e1, e2⟩ := h1.line hS ha
      rw [hd] at e1
      subst e1; subst e2
      obtain ⟨e3, e4, e5⟩ := ih (fun x hx => h x (List.mem_cons_of_mem _ hx)) h2
      exact ⟨by rw [undot_esc, e3], e4, e5⟩
theorem dotText_le (ls : List (List UInt8)) (h : ∀ l ∈ ls, l.length ≤ 16777216) (hm : ls.length ≤ 65536) : (dotText ls).length ≤ 1099511824387 := by
  have h1 := dtx_le ls 16777216 h
  have h2 : ls.length * (16777216 + 3) ≤ 65536 * 16777219 := Nat.mul_le_mul hm (by omega)
  have h3 : (dotText ls).length = (dtx ls).length + 3 := by unfold dotText dtx; rw [List.length_append]; rfl
  omega
set_option maxRecDepth 200000 in
set_option maxHeartbeats 3200000 in
theorem lawDotLines (E : Nat → Addr) (gs : List Nat) (A : Option Addr) (n c : Nat) (ls : List (List UInt8)) (hn : n = ls.length) (hl : ∀ l ∈ ls, l.length ≤ 9223372036854775807) (hm : ls.length ≤ 9223372036854775807) (B : Option Addr) (nr d : Nat) (rest : List UInt8) (hnr : nr = rest.length) (hrl : rest.length ≤ 9223372036854775807) (w : World) (hr : SL w A ls) (hb : RB w B rest) (hs : Sens w E gs)
    (hg : 1 ∈ gs) (hk : 2 ∈ gs) (hf : 5 ∈ gs) :
    Calls Tryd.prog 10 #[.slice A n c, .slice B nr d] w fun e w' => e = .returned (.bool true) ∧ Below w.heap.size w w' := by
  subst hnr
  have hz := zzFits3_any (c := c) hr hn hl hm
  have hbr := brief_any (c := c) hr hn hl hm
  have hdl := dotless_any (c := c) hr hn hl hm
  subst hn
  obtain ⟨b1, hb1⟩ : ∃ b1, b1 = (decide (ls.length ≤ 2147483647) && allLe 2147483647 ls) := ⟨_, rfl⟩
  obtain ⟨b2, hb2⟩ : ∃ b2, b2 = (allLe 16777216 ls && decide (ls.length ≤ 65536)) := ⟨_, rfl⟩
  obtain ⟨b3, hb3⟩ : ∃ b3, b3 = cleansB ls := ⟨_, rfl⟩
  rw [← hb1] at hz
  rw [← hb2] at hbr
  rw [← hb3] at hdl
  have H := Lib.hid (And.intro hz (And.intro hbr hdl))
  have HB := Lib.hid (And.intro hb1 (And.intro hb2 hb3))
  have HR := Lib.hid (And.intro hr (And.intro hb hs))
  clear hz hbr hdl hb1 hb2 hb3 hr hb hs
  by_cases hgo : b1 = true ∧ b2 = true ∧ b3 = true ∧ rest.length ≤ 16777216
  · obtain ⟨rfl, rfl, rfl, hr24⟩ := hgo
    have hcl := cleansB_iff.1 HB.out.2.2.symm
    have hbs := HB.out.2.1.symm
    rw [Bool.and_eq_true, allLe_iff, decide_eq_true_eq] at hbs
    have hdt := dotText_le ls hbs.1 hbs.2
    have hdx := specDotText_any (c := c) HR.out.1 rfl hbs.1 hbs.2
    have hlaw := fun {ls' R' er} (hh : DotLinesSays (dotText ls ++ rest) ls' er R') => hh.text hcl
    have hii := fun (w1 : World) (A1 : Option Addr) (n1 c1 : Nat) (h1 : Below w.heap.size w w1) (hn1 : n1 = (dotText ls ++ rest).length) (hr1 : RB w1 A1 (dotText ls ++ rest)) => implDotLines_any (c := c1) (HR.out.2.2.below h1) hg hk hf hn1 hr1 (by rw [List.length_append]; omega)
    have HL := Lib.hid (fun ls' R' er (hh : DotLinesSays (dotText ls ++ rest) ls' er R') => hlaw hh)
    have HI := Lib.hid (And.intro hdx hii)
    generalize dotText ls = D at *
    clear hcl hbs hdx hlaw hii
    go_enter Tryd.func10, Tryd.ntmps10
    go_wp2_with (first
      | (go_at_call 21; refine H.out.1.mono ?_; rintro e w' ⟨rfl, rfl⟩)
      | (go_at_call 22; refine H.out.2.1.mono ?_; rintro e w' ⟨rfl, rfl⟩)
      | (go_at_call 23; refine H.out.2.2.mono ?_; rintro e w' ⟨rfl, rfl⟩)
      | (go_at_call 19; refine HI.out.1.mono ?_; rintro e w1 ⟨⟨A1, c1, rfl, ho1, hr1⟩, hb1⟩; have H1 := Lib.hid (And.intro ho1 (And.intro hr1 hb1)); clear ho1 hr1 hb1)
      | ((with_reducible refine at_appendB ?_); refine wpList_append_B rfl (.tmp 29) (.tmp 30) rfl w.heap.size (.slice A1 D.length c1) D rfl H1.out.1 B rest rest.length d rfl rfl (HR.out.2.1.below H1.out.2.2) (by omega) H1.out.2.2.size (D.length + rest.length) rfl (D ++ rest) rfl ?_; intro A2 c2 w2 hap; have HP := Lib.hid (And.intro hap (H1.out.2.2.trans ((Below.refl _ _).grown hap.grown H1.out.2.2.size (fun k hk => (H1.out.1.lt k hk).1)))); clear hap)
      | (go_at_call 31; refine (HI.out.2 w2 A2 _ c2 HP.out.2 (by rw [List.length_append]) HP.out.1.read).mono ?_; rintro e w3 ⟨ls3, A3, c3, er, R, A4, c4, rfl, hsay, hsl, hle, hrb, hb3⟩; have H3 := Lib.hid (And.intro hsl (And.intro hrb hb3)); obtain ⟨rfl, rfl, rfl⟩ := HL.out _ _ _ hsay; clear hsay hsl hle hrb hb3)
      | (go_at_call 29; refine (equalS_same rfl rfl hm H3.out.1 (HR.out.1.below (HP.out.2.trans (H3.out.2.2.mono HP.out.2.size)))).mono ?_; rintro e w5 ⟨rfl, ho5⟩; have st1 := run_toStringR (n := R.length) (c := c4) rfl (H3.out.2.1.below (ho5.below _)); have st2 := run_toStringR (n := R.length) (c := d) rfl (HR.out.2.1.below ((HP.out.2.trans (H3.out.2.2.mono HP.out.2.size)).trans (ho5.below _))); have H5 := Lib.hid ho5; clear ho5))
    go_ret
    exact ⟨rfl, (HP.out.2.trans (H3.out.2.2.mono HP.out.2.size)).trans (H5.out.below _)⟩
  · clear HR HB
    rcases (show b1 = false ∨ (b1 = true ∧ 2147483647 < rest.length) ∨ (b1 = true ∧ b2 = false ∧ rest.length ≤ 2147483647) ∨ (b1 = true ∧ b2 = true ∧ rest.length ≤ 2147483647 ∧ 16777216 < rest.length) ∨ (b1 = true ∧ b2 = true ∧ b3 = false ∧ rest.length ≤ 16777216) by
      cases b1
      · exact .inl rfl
      · by_cases h1 : 2147483647 < rest.length
        · exact .inr (.inl ⟨rfl, h1⟩)
        · cases b2
          · exact .inr (.inr (.inl ⟨rfl, rfl, by omega⟩))
          · by_cases h2 : 16777216 < rest.length
            · exact .inr (.inr (.inr (.inl ⟨rfl, rfl, by omega, h2⟩)))
            · cases b3
              · exact .inr (.inr (.inr (.inr ⟨rfl, rfl, rfl, by omega⟩)))
              · exact absurd ⟨rfl, rfl, rfl, by omega⟩ hgo) with rfl | ⟨rfl, h1⟩ | ⟨rfl, rfl, h1⟩ | ⟨rfl, rfl, h1, h2⟩ | ⟨rfl, rfl, rfl, h1⟩
    all_goals
      clear hgo
      go_enter Tryd.func10, Tryd.ntmps10
      go_wp2_with (first
        | (go_at_call 21; refine H.out.1.mono ?_; rintro e w' ⟨rfl, rfl⟩)
        | (go_at_call 22; refine H.out.2.1.mono ?_; rintro e w' ⟨rfl, rfl⟩)
        | (go_at_call 23; refine H.out.2.2.mono ?_; rintro e w' ⟨rfl, rfl⟩))
      go_ret
      exact ⟨rfl, Below.refl _ _⟩
end Go.Proofs.YteiiocibldpioaaDoor
