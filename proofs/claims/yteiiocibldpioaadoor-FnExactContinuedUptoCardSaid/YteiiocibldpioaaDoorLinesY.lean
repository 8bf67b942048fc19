/- FnExactLines: the law's walk. -/
import Derived.Test.YteiiocibldpioaaDoorLinesW
import Derived.Test.YteiiocibldpioaaDoorLinesX
import Derived.Test.YteiiocibldpioaaDoorShelf
namespace Go.Proofs.YteiiocibldpioaaDoor
open Go.RowKit

/-- slices.Equal of two slices of strings that read alike. -/
theorem equalS_same {w : World} {A B : Option Addr} {n m c d : Nat} {ls : List (List UInt8)} (hn : n = ls.length) (hm : m = ls.length) (hl : ls.length ≤ 9223372036854775807) (ha : SL w A ls) (hb : SL w B ls) :
    Calls Tryd.prog 29 #[.slice A n c, .slice B m d] w fun e w' => e = .returned (.bool true) ∧ Only w w' := by
  subst hn
  subst hm
  by_cases hne : ls = []
  · subst hne
    refine (Tryd.slices_Equal_string_empty A B c 0 d w (by decide)).mono fun e w' ⟨h1, h2⟩ => ?_
    subst h2
    exact ⟨h1, Only.refl _⟩
  · obtain ⟨g1, o1, rfl, h1⟩ := ha hne
    obtain ⟨g2, o2, rfl, h2⟩ := hb hne
    have hx : ∀ j, (hj : j < (ls.map (fun l => ByteArray.mk l.toArray)).length) → (ls.map (fun l => ByteArray.mk l.toArray)).getD j ByteArray.empty = ⟨(ls[j]'(by simpa using hj)).toArray⟩ := fun j hj => by
      rw [List.length_map] at hj
      simp [List.getD_eq_getElem?_getD, List.getElem?_eq_getElem hj]
    refine (Tryd.slices_Equal_string g1 o1 ls.length c g2 o2 ls.length d (ls.map (fun l => ⟨l.toArray⟩)) (ls.map (fun l => ⟨l.toArray⟩)) w (by simp) (by simp) hl hl
      (fun j hj => by rw [hx j hj]; exact h1 j _ (List.getElem?_eq_getElem _)) (fun j hj => by rw [hx j hj]; exact h2 j _ (List.getElem?_eq_getElem _))).mono fun e w' ⟨e1, q, e2⟩ => ?_
    subst e2
    exact ⟨by rw [e1, decide_eq_true rfl], (Only.refl _).drewN q⟩
theorem Only.below {w w' : World} (h : Only w w') (B : Nat) : Below B w w' := ⟨h.os, h.tape, h.output, by rw [h.heap]; exact Nat.le_refl _, fun k _ => by rw [h.heap]⟩
set_option maxRecDepth 200000 in
set_option maxHeartbeats 1600000 in
theorem lawLines (E : Nat → Addr) (gs : List Nat) (A : Option Addr) (n c : Nat) (S : List UInt8) (hn : n = S.length) (hc : S.length ≤ c) (hc2 : c ≤ 9223372036854775807) (w : World) (hr : RB w A S) (hs : Sens w E gs)
    (hg : 1 ∈ gs) (hk : 2 ∈ gs) (hf : 5 ∈ gs) :
    Calls Tryd.prog 8 #[.slice A n c] w fun e w' => e = .returned (.bool true) ∧ Below w.heap.size w w' := by
  subst hn
  by_cases h : S.length ≤ 16777216
  · have htl := specTail_any (c := c) rfl hr h
    obtain ⟨tl, htl2⟩ : ∃ tl, tl = tailAcc 0 S := ⟨_, rfl⟩
    rw [← htl2] at htl
    by_cases ht : tl < 4096
    · have hil := implLines_any (c := c) hs hg hk hf rfl hr h
      have hlw := fun {ls} (hh : LinesSays S ls) => hh.law (by rw [← htl2]; exact ht)
      have H := Lib.hid (And.intro htl (And.intro hil hr))
      have HW := Lib.hid (fun ls (hh : LinesSays S ls) => hlw hh)
      have hle := linesAcc_le S []
      have HLE := Lib.hid hle
      clear htl hil hlw hr hs htl2 hle
      go_enter Tryd.func8, Tryd.ntmps8
      go_wp2_with (first
        | (go_at_call 27; refine H.out.1.mono ?_; rintro e w' ⟨rfl, rfl⟩)
        | (go_at_call 28; refine H.out.2.1.mono ?_; rintro e w1 ⟨ls, A1, c1, rfl, hsay, hsl, _, _, hb1⟩; have H1 := Lib.hid (And.intro (HW.out ls hsay) (And.intro hsl hb1)); clear hsay hsl hb1)
        | (go_at_call 20; refine (specLines_any rfl hc hc2 (H.out.2.2.below H1.out.2.2) h).mono ?_; rintro e w2 ⟨A2, c2, rfl, hsl2, hb2⟩; have H2 := Lib.hid (And.intro hsl2 hb2); clear hsl2 hb2)
        | (go_at_call 29; refine (equalS_same (ls := linesAcc [] S) (by rw [H1.out.1]) rfl (by have := HLE.out; omega) ((H1.out.1 ▸ H1.out.2.1).below H2.out.2) H2.out.1).mono ?_; rintro e w3 ⟨rfl, ho3⟩; have H3 := Lib.hid ho3; clear ho3))
      go_ret
      exact ⟨rfl, (H1.out.2.2.trans (H2.out.2.mono H1.out.2.2.size)).trans (H3.out.below _)⟩
    · have H := Lib.hid htl
      have ht2 : 4096 ≤ (tl : Int) := by omega
      clear htl htl2 hr hs
      go_enter Tryd.func8, Tryd.ntmps8
      go_wp2_with (go_at_call 27; refine H.out.mono ?_; rintro e w' ⟨rfl, rfl⟩)
      go_ret
      exact ⟨rfl, Below.refl _ _⟩
  · clear hr hs
    rcases (show 2147483647 < S.length ∨ (16777216 < S.length ∧ S.length ≤ 2147483647) by omega) with h1 | ⟨h1, h2⟩
    all_goals
      go_enter Tryd.func8, Tryd.ntmps8
      go_wp2_with (fail)
      go_ret
      exact ⟨rfl, Below.refl _ _⟩
end Go.Proofs.YteiiocibldpioaaDoor
