/- FnSlowLines: the law's walk. -/
import Derived.Test.YteiiocibldpioaaDoorLinesS
import Derived.Test.YteiiocibldpioaaDoorLinesY
namespace Go.Proofs.YteiiocibldpioaaDoor
open Go.RowKit

set_option maxRecDepth 200000 in
set_option maxHeartbeats 1600000 in
theorem lawSlow (E : Nat → Addr) (gs : List Nat) (A : Option Addr) (n c : Nat) (S : List UInt8) (hn : n = S.length) (x : Int) (hx : x ≤ 9223372036854775807) (w : World) (hr : RB w A S) (hs : Sens w E gs)
    (hg : 1 ∈ gs) (hk : 2 ∈ gs) (hf : 5 ∈ gs) :
    Calls Tryd.prog 9 #[.slice A n c, .int .i64 x] w fun e w' => e = .returned (.bool true) ∧ Below w.heap.size w w' := by
  subst hn
  by_cases h : S.length ≤ 16777216
  · have hsl := implSlow_any (c := c) hs hg hk hf rfl hr h x hx
    have hil := fun (w1 : World) (h1 : Below w.heap.size w w1) => implLines_any (c := c) (hs.below h1) hg hk hf rfl (hr.below h1) h
    have H := Lib.hid (And.intro hsl hil)
    clear hsl hil hr hs
    go_enter Tryd.func9, Tryd.ntmps9
    go_wp2_with (first
      | (go_at_call 30; refine H.out.1.mono ?_; rintro e w1 ⟨ls, A1, c1, rfl, hsay, hsl, hle, _, hb1⟩; have H1 := Lib.hid (And.intro hsay (And.intro hsl (And.intro hle hb1))); clear hsay hsl hle hb1)
      | (go_at_call 28; refine (H.out.2 _ H1.out.2.2.2).mono ?_; rintro e w2 ⟨ls2, A2, c2, rfl, hsay2, hsl2, _, _, hb2⟩; have H2 := Lib.hid (And.intro (H1.out.1.det hsay2) (And.intro hsl2 hb2)); clear hsay2 hsl2 hb2)
      | (go_at_call 29; refine (equalS_same (ls := ls) rfl (by rw [← H2.out.1]) (by have := H1.out.2.2.1; omega) (H1.out.2.1.below H2.out.2.2) (by rw [H2.out.1]; exact H2.out.2.1)).mono ?_; rintro e w3 ⟨rfl, ho3⟩; have H3 := Lib.hid ho3; clear ho3))
    go_ret
    exact ⟨rfl, (H1.out.2.2.2.trans (H2.out.2.2.mono H1.out.2.2.2.size)).trans (H3.out.below _)⟩
  · clear hr hs
    rcases (show 2147483647 < S.length ∨ (16777216 < S.length ∧ S.length ≤ 2147483647) by omega) with h1 | ⟨h1, h2⟩
    all_goals
      go_enter Tryd.func9, Tryd.ntmps9
      go_wp2_with (fail)
      go_ret
      exact ⟨rfl, Below.refl _ _⟩
end Go.Proofs.YteiiocibldpioaaDoor
