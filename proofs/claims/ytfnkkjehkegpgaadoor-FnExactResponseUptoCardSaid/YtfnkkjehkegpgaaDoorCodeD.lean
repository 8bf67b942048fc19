/- FnExactCode: the law's walk. -/
import Derived.Test.YtfnkkjehkegpgaaDoorCodeC
namespace Go.Proofs.YtfnkkjehkegpgaaDoor
open Go.RowKit
theorem code_len (n : Int) (d : UInt8) (m : List UInt8) : (digitsL n ++ [d] ++ m).length = m.length + 4 := by simp [digitsL]

set_option maxHeartbeats 1600000 in
theorem lawCode_go (E : Nat → Addr) (gs : List Nat) (n : Int) (more : Bool) (m : List UInt8) (x : Int) (hm : m.length ≤ 16777216) (h100 : 100 ≤ n) (h999 : n ≤ 999) (hx : x < 1000) (w : World) (hs : Sens w E gs) (hg : 5 ∈ gs) (h0 : 0 ∈ gs) (h1 : 1 ∈ gs) :
    Calls Tryd.prog 5 #[.int .i64 n, .bool more, .string ⟨m.toArray⟩, .int .i64 x] w fun e w' => e = .returned (.bool true) ∧ Below w.heap.size w w' := by
  have hd3 : (digitsL n).length = 3 := rfl
  have hl1 : parseL x (digitsL n ++ 45 :: m) = (n, true, m, codeErr n x) := code_law n x h100 h999 45 (.inr rfl) m
  have hl2 : parseL x (digitsL n ++ 32 :: m) = (n, false, m, codeErr n x) := code_law n x h100 h999 32 (.inl rfl) m
  have hdg := specDigits_any n h100 h999
  generalize digitsL n = D at hd3 hl1 hl2 hdg
  have hc1 : ∀ w, Sens w E gs → _ := fun w hs => implCode_any E gs (D ++ 32 :: m) x (by simp [hd3]; omega) w hs hg h0 h1
  have hc2 : ∀ w, Sens w E gs → _ := fun w hs => implCode_any E gs (D ++ 45 :: m) x (by simp [hd3]; omega) w hs hg h0 h1
  rw [hl2] at hc1
  rw [hl1] at hc2
  have hC1 := Lib.hid hc1
  have hC2 := Lib.hid hc2
  clear hc1 hc2 hl1 hl2
  rcases codeErr_cases n x with ⟨hc, hf⟩ | ⟨hc, hf⟩
  all_goals
    rw [hc] at hC1 hC2
    cases more
    case false =>
      go_enter Tryd.func5, Tryd.ntmps5
      go_wp2_with (first
        | (go_at_call 9; refine (specFits_any n x h100 h999 _).mono ?_; rw [hf, decide_eq_true hx]; rintro e w' ⟨rfl, rfl⟩)
        | (go_at_call 16; refine (hdg _).mono ?_; rintro e w1 ⟨rfl, hb1⟩)
        | (go_at_call 14; refine (hC1.out _ (hs.below hb1)).mono ?_; rintro e w2 ⟨rfl, hb2⟩))
      go_ret
      exact ⟨rfl, hb1.trans (hb2.mono hb1.size)⟩
    case true =>
      go_enter Tryd.func5, Tryd.ntmps5
      go_wp2_with (first
        | (go_at_call 9; refine (specFits_any n x h100 h999 _).mono ?_; rw [hf, decide_eq_true hx]; rintro e w' ⟨rfl, rfl⟩)
        | (go_at_call 16; refine (hdg _).mono ?_; rintro e w1 ⟨rfl, hb1⟩)
        | (go_at_call 14; refine (hC2.out _ (hs.below hb1)).mono ?_; rintro e w2 ⟨rfl, hb2⟩))
      go_ret
      exact ⟨rfl, hb1.trans (hb2.mono hb1.size)⟩
theorem specFits_all (n x : Int) (hn : n ≤ 9223372036854775807) (hn' : -9223372036854775808 ≤ n) (w : World) :
    Calls Tryd.prog 9 #[.int .i64 n, .int .i64 x] w fun e w' => (∃ q, e = .returned (.tuple #[.bool q, .bool (decide (x < 1000))])) ∧ w = w' := by
  rcases (show x < 1000 ∨ 1000 ≤ x by omega) with hx | hx
  · rw [decide_eq_true hx]
    go_enter Tryd.func9, Tryd.ntmps9
    go_wp2
    all_goals go_ret2
    all_goals exact ⟨⟨_, rfl⟩, rfl⟩
  · rw [decide_eq_false (by omega)]
    go_enter Tryd.func9, Tryd.ntmps9
    go_wp2
    all_goals go_ret2
    all_goals exact ⟨⟨_, rfl⟩, rfl⟩
theorem lawCode (E : Nat → Addr) (gs : List Nat) (n : Int) (more : Bool) (m : List UInt8) (x : Int) (hn : n ≤ 9223372036854775807) (hn' : -9223372036854775808 ≤ n) (hm : m.length ≤ 9223372036854775807) (w : World) (hs : Sens w E gs) (hg : 5 ∈ gs) (h0 : 0 ∈ gs) (h1 : 1 ∈ gs) :
    Calls Tryd.prog 5 #[.int .i64 n, .bool more, .string ⟨m.toArray⟩, .int .i64 x] w fun e w' => e = .returned (.bool true) ∧ Below w.heap.size w w' := by
  by_cases h : m.length ≤ 16777216 ∧ 100 ≤ n ∧ n ≤ 999 ∧ x < 1000
  · exact lawCode_go E gs n more m x h.1 h.2.1 h.2.2.1 h.2.2.2 w hs hg h0 h1
  · rcases (show 16777216 < m.length ∨ (m.length ≤ 16777216 ∧ n < 100) ∨ (m.length ≤ 16777216 ∧ 999 < n) ∨ (m.length ≤ 16777216 ∧ 100 ≤ n ∧ n ≤ 999 ∧ 1000 ≤ x) by omega) with hc | ⟨hc, hc1⟩ | ⟨hc, hc1⟩ | ⟨hc, hc1, hc2, hc3⟩
    all_goals
      go_enter Tryd.func5, Tryd.ntmps5
      go_wp2_with (go_at_call 9; refine (specFits_all n x hn hn' _).mono ?_; (try rw [decide_eq_false (show ¬ x < 1000 by omega)]); rintro e w' ⟨⟨q, rfl⟩, rfl⟩)
      all_goals go_ret
      all_goals exact ⟨rfl, Below.refl _ _⟩
end Go.Proofs.YtfnkkjehkegpgaaDoor
