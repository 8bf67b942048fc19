/- FnExactCodeLine and FnMany: the two laws' walks. -/
import Derived.Test.YtfnkkjehkegpgaaDoorCodeM
import Derived.Test.YtfnkkjehkegpgaaDoorCodeD
import Derived.Test.YtfnkkjehkegpgaaDoorCat
import Derived.Test.YtfnkkjehkegpgaaDoorStrs
namespace Go.Proofs.YtfnkkjehkegpgaaDoor
open Go.RowKit

theorem digits_clean (n : Int) (h1 : 100 ≤ n) (h2 : n ≤ 999) : Clean (digitsL n) := by
  have hd : ∀ k : Int, 0 ≤ k → k < 10 → dig k ≠ 13 ∧ dig k ≠ 10 := fun k h1 h2 => by
    have := dig_toNat h1 h2
    constructor
    · intro e; rw [e] at this; simp at this; omega
    · intro e; rw [e] at this; simp at this; omega
  intro c hc
  simp only [digitsL, List.mem_cons, List.not_mem_nil, or_false] at hc
  rcases hc with rfl | rfl | rfl
  · exact hd _ (by omega) (by omega)
  · exact hd _ (by omega) (by omega)
  · exact hd _ (by omega) (by omega)
theorem Clean.append {a b : List UInt8} (ha : Clean a) (hb : Clean b) : Clean (a ++ b) := fun c hc => (List.mem_append.1 hc).elim (ha c) (hb c)
theorem Clean.cons {c : UInt8} {b : List UInt8} (h1 : c ≠ 13) (h2 : c ≠ 10) (hb : Clean b) : Clean (c :: b) := fun x hx => by
  rcases List.mem_cons.1 hx with rfl | hx
  · exact ⟨h1, h2⟩
  · exact hb x hx
theorem Clean.no10 {a : List UInt8} (h : Clean a) : 10 ∉ a := fun hm => (h 10 hm).2 rfl
/-- A line and CR LF: cut at the LF. -/
theorem line_cut (a rest : List UInt8) : a ++ [13, 10] ++ rest = (a ++ [13]) ++ 10 :: rest := by simp
theorem Clean.cr10 {a : List UInt8} (h : Clean a) : 10 ∉ a ++ [13] := by
  rw [List.mem_append, not_or]; exact ⟨h.no10, by decide⟩

theorem oneL_no (n : Int) (m : List UInt8) (k : Int) : oneL (n, false, m, k) = (n, m, k) := by simp [oneL]
theorem oneL_yes (n : Int) (m : List UInt8) (k : Int) : oneL (n, true, m, k) = (n, m, if k = 0 then 3 else k) := by simp [oneL]
set_option maxRecDepth 200000 in
set_option maxHeartbeats 1600000 in
theorem lawCodeLine_go (E : Nat → Addr) (gs : List Nat) (n : Int) (m : List UInt8) (x : Int) (A : Option Addr) (nr c : Nat) (rest : List UInt8) (hnr : nr = rest.length) (hm : m.length ≤ 16777216) (hrl : rest.length ≤ 16777216) (h100 : 100 ≤ n) (h999 : n ≤ 999) (hx : x < 1000) (hcl : Clean m) (w : World) (hr : RB w A rest) (hs : Sens w E gs)
    (hg : 0 ∈ gs) (hk : 1 ∈ gs) (hf : 4 ∈ gs) (hy : 5 ∈ gs) :
    Calls Tryd.prog 6 #[.int .i64 n, .string ⟨m.toArray⟩, .int .i64 x, .slice A nr c] w fun e w' => e = .returned (.bool true) ∧ Below w.heap.size w w' := by
  subst hnr
  have hd3 : (digitsL n).length = 3 := rfl
  have hlaw : parseL x (digitsL n ++ 32 :: m) = (n, false, m, codeErr n x) := code_law n x h100 h999 32 (.inl rfl) m
  have hdc := digits_clean n h100 h999
  have hdg := specDigits_any n h100 h999
  generalize digitsL n = D at hd3 hlaw hdg hdc
  have hclA : Clean (D ++ 32 :: m) := hdc.append (Clean.cons (by decide) (by decide) hcl)
  have hcm : ∀ w (A : Option Addr) (n c : Nat), Sens w E gs → n = (D ++ [32] ++ m ++ [13, 10] ++ rest).length → RB w A (D ++ [32] ++ m ++ [13, 10] ++ rest) → Calls Tryd.prog 18 #[.slice A n c, .int .i64 x] w (CodeLineEnd (oneL (parseL x (dropCR ((D ++ 32 :: m) ++ [13])))) rest w) := fun w A n c hs hn hr =>
    implCodeLine_line hs hg hk hf hy hn hr (by simp [hd3]; omega) (by rw [show D ++ [32] ++ m = D ++ 32 :: m by simp]; exact line_cut _ _) hclA.cr10 x
  rw [dropCR_cr, hlaw, oneL_no] at hcm
  obtain ⟨tl, htl⟩ : ∃ k, k = (D ++ 32 :: (m ++ [13, 10])).length := ⟨_, rfl⟩
  obtain ⟨tt, htt⟩ : ∃ k, k = tl + rest.length := ⟨_, rfl⟩
  have hTs : D ++ [32] ++ m ++ [13, 10] = D ++ 32 :: (m ++ [13, 10]) := by simp
  rw [hTs] at hcm
  have htls : tl = m.length + 6 := by rw [htl]; simp [hd3]; omega
  have hdot : ∀ w : World, Calls Tryd.prog 17 #[.slice (some ⟨w.heap.size, 0, none⟩) 1 1] (w.alloc (.cells #[.string ⟨m.toArray⟩] 9)) fun e w' => e = .returned (.bool true) ∧ (w.alloc (.cells #[.string ⟨m.toArray⟩] 9)) = w' := fun w => by
    have := dotless_any (c := 1) (SL.one w m 9) (n := 1) rfl (by simp; omega) (by simp)
    rw [cleansB_iff.2 (by simpa using hcl)] at this
    exact this
  have HC := Lib.hid hcm
  have HD := Lib.hid (And.intro hdot (And.intro hr (And.intro hs hd3)))
  have HT := Lib.hid (And.intro htl (And.intro htt htls))
  clear hcm hdot hlaw hdc hclA hr hs hTs htl htt htls
  rcases codeErr_cases n x with ⟨hc, hf⟩ | ⟨hc, hf⟩
  all_goals
    rw [hc] at HC
    go_enter Tryd.func6, Tryd.ntmps6
    go_wp2_with (first
        | (go_at_call 9; refine (specFits_any n x h100 h999 _).mono ?_; rw [hf, decide_eq_true hx]; rintro e w' ⟨rfl, rfl⟩)
        | (go_at_call 17; refine (HD.out.1 _).mono ?_; rintro e w' ⟨rfl, rfl⟩)
        | (go_at_call 16; refine (hdg _).mono ?_; rintro e w1 ⟨rfl, hb1⟩; have HB1 := Lib.hid hb1; clear hb1)
        | (with_reducible refine at_toBytes ?_; refine wpList_toRawN rfl (.tmp 59) rfl (D ++ 32 :: (m ++ [13, 10])) rfl (by rw [← HT.out.1]; have := HT.out.2.2; omega) tl HT.out.1 ?_; intro c1 w2 hfr hraw; have HR1 := Lib.hid (And.intro hfr hraw); clear hfr hraw)
        | (with_reducible refine at_appendB ?_; refine wpList_append_raw rfl (.tmp 60) (.tmp 61) rfl w1.heap.size (D ++ 32 :: (m ++ [13, 10])) tl c1 HT.out.1 rfl HR1.out.2 A rest rest.length c rfl rfl (HD.out.2.1.below (((Below.refl _ _).alloc (Nat.le_refl _) _).trans ((HB1.out.mono (by simp)).trans (HR1.out.1.below.mono (by have := HB1.out.size; simp at this; omega))))) (by rw [← HT.out.1]; have := HT.out.2.2; omega) tt (by rw [← HT.out.1]; exact HT.out.2.1) ?_; intro A3 c3 w3 hcat; have b3 : Below w.heap.size w w3 := (((Below.refl _ _).alloc (Nat.le_refl _) _).trans ((HB1.out.mono (by simp)).trans (HR1.out.1.below.mono (by have := HB1.out.size; simp at this; omega)))).trans (hcat.below w.heap.size (by have := HB1.out.size; simp at this; omega) (by have := HB1.out.size; have := HR1.out.1.size; simp at *; omega)); have HK := Lib.hid (And.intro hcat b3); clear hcat b3)
        | (go_at_call 18; refine (HC.out w3 A3 tt c3 (HD.out.2.2.1.below HK.out.2) (by rw [List.length_append, ← HT.out.1]; exact HT.out.2.1) HK.out.1.read).mono ?_; rintro e w4 ⟨A4, c4, rfl, hc4, hc4', hrb4, hb4⟩; have st1 := run_toStringR (n := rest.length) (c := c4) rfl hrb4; have st2 := run_toStringR (n := rest.length) (c := c) rfl (HD.out.2.1.below (HK.out.2.trans (hb4.mono HK.out.2.size))); have H4 := Lib.hid hb4; clear hc4 hc4' hrb4 hb4))
    go_ret
    exact ⟨rfl, HK.out.2.trans (H4.out.mono HK.out.2.size)⟩

set_option maxRecDepth 200000 in
set_option maxHeartbeats 3200000 in
theorem lawCodeLine (E : Nat → Addr) (gs : List Nat) (n : Int) (m : List UInt8) (x : Int) (A : Option Addr) (nr c : Nat) (rest : List UInt8) (hnr : nr = rest.length) (hn : n ≤ 9223372036854775807) (hn' : -9223372036854775808 ≤ n) (hm : m.length ≤ 9223372036854775807) (hrl : rest.length ≤ 9223372036854775807) (w : World) (hr : RB w A rest) (hs : Sens w E gs)
    (hg : 0 ∈ gs) (hk : 1 ∈ gs) (hf : 4 ∈ gs) (hy : 5 ∈ gs) :
    Calls Tryd.prog 6 #[.int .i64 n, .string ⟨m.toArray⟩, .int .i64 x, .slice A nr c] w fun e w' => e = .returned (.bool true) ∧ Below w.heap.size w w' := by
  by_cases h : m.length ≤ 16777216 ∧ rest.length ≤ 16777216 ∧ 100 ≤ n ∧ n ≤ 999 ∧ x < 1000
  · obtain ⟨h1, h2, h3, h4, h5⟩ := h
    by_cases hcl : Clean m
    · exact lawCodeLine_go E gs n m x A nr c rest hnr h1 h2 h3 h4 h5 hcl w hr hs hg hk hf hy
    · have hdot : ∀ w : World, Calls Tryd.prog 17 #[.slice (some ⟨w.heap.size, 0, none⟩) 1 1] (w.alloc (.cells #[.string ⟨m.toArray⟩] 9)) fun e w' => e = .returned (.bool false) ∧ (w.alloc (.cells #[.string ⟨m.toArray⟩] 9)) = w' := fun w => by
        have := dotless_any (c := 1) (SL.one w m 9) (n := 1) rfl (by simp; omega) (by simp)
        rw [show cleansB [m] = false by rw [Bool.eq_false_iff]; exact fun e => hcl (cleansB_iff.1 e m (by simp))] at this
        exact this
      have HD := Lib.hid hdot
      clear hdot hr hs
      subst hnr
      go_enter Tryd.func6, Tryd.ntmps6
      go_wp2_with (first
        | (go_at_call 9; refine (specFits_any n x h3 h4 _).mono ?_; rw [decide_eq_true h5]; rintro e w' ⟨rfl, rfl⟩)
        | (go_at_call 17; refine (HD.out _).mono ?_; rintro e w' ⟨rfl, rfl⟩))
      go_ret
      exact ⟨rfl, (Below.refl _ _).alloc (Nat.le_refl _) _⟩
  · clear hr hs
    subst hnr
    rcases (show 2147483647 < m.length ∨ (m.length ≤ 2147483647 ∧ 2147483647 < rest.length) ∨ (16777216 < m.length ∧ m.length ≤ 2147483647 ∧ rest.length ≤ 2147483647) ∨ (m.length ≤ 16777216 ∧ 16777216 < rest.length ∧ rest.length ≤ 2147483647) ∨ (m.length ≤ 16777216 ∧ rest.length ≤ 16777216 ∧ n < 100) ∨ (m.length ≤ 16777216 ∧ rest.length ≤ 16777216 ∧ 999 < n) ∨ (m.length ≤ 16777216 ∧ rest.length ≤ 16777216 ∧ 100 ≤ n ∧ n ≤ 999 ∧ 1000 ≤ x) by omega) with hc | ⟨hc, hc1⟩ | ⟨hc, hc1, hc2⟩ | ⟨hc, hc1, hc2⟩ | ⟨hc, hc1, hc2⟩ | ⟨hc, hc1, hc2⟩ | ⟨hc, hc1, hc2, hc3, hc4⟩
    all_goals
      clear h
      go_enter Tryd.func6, Tryd.ntmps6
      go_wp2_with (go_at_call 9; refine (specFits_all n x hn hn' _).mono ?_; (try rw [decide_eq_false (show ¬ x < 1000 by omega)]); rintro e w' ⟨⟨q, rfl⟩, rfl⟩)
      all_goals go_ret
      all_goals exact ⟨rfl, Below.refl _ _⟩
set_option maxRecDepth 200000 in
set_option maxHeartbeats 1600000 in
theorem lawMany_go (E : Nat → Addr) (gs : List Nat) (n : Int) (m : List UInt8) (x : Int) (A : Option Addr) (nr c : Nat) (rest : List UInt8) (hnr : nr = rest.length) (hm : m.length ≤ 16777216) (hrl : rest.length ≤ 16777216) (h100 : 100 ≤ n) (h999 : n ≤ 999) (hx : x < 1000) (hcl : Clean m) (w : World) (hr : RB w A rest) (hs : Sens w E gs)
    (hg : 0 ∈ gs) (hk : 1 ∈ gs) (hf : 4 ∈ gs) (hy : 5 ∈ gs) :
    Calls Tryd.prog 7 #[.int .i64 n, .string ⟨m.toArray⟩, .int .i64 x, .slice A nr c] w fun e w' => e = .returned (.bool true) ∧ Below w.heap.size w w' := by
  subst hnr
  have hd3 : (digitsL n).length = 3 := rfl
  have hlaw : parseL x (digitsL n ++ 45 :: m) = (n, true, m, codeErr n x) := code_law n x h100 h999 45 (.inr rfl) m
  have hdc := digits_clean n h100 h999
  have hdg := specDigits_any n h100 h999
  generalize digitsL n = D at hd3 hlaw hdg hdc
  have hclA : Clean (D ++ 45 :: m) := hdc.append (Clean.cons (by decide) (by decide) hcl)
  have hcm : ∀ w (A : Option Addr) (n c : Nat), Sens w E gs → n = (D ++ [45] ++ m ++ [13, 10] ++ rest).length → RB w A (D ++ [45] ++ m ++ [13, 10] ++ rest) → Calls Tryd.prog 18 #[.slice A n c, .int .i64 x] w (CodeLineEnd (oneL (parseL x (dropCR ((D ++ 45 :: m) ++ [13])))) rest w) := fun w A n c hs hn hr =>
    implCodeLine_line hs hg hk hf hy hn hr (by simp [hd3]; omega) (by rw [show D ++ [45] ++ m = D ++ 45 :: m by simp]; exact line_cut _ _) hclA.cr10 x
  rw [dropCR_cr, hlaw, oneL_yes] at hcm
  obtain ⟨tl, htl⟩ : ∃ k, k = (D ++ 45 :: (m ++ [13, 10])).length := ⟨_, rfl⟩
  obtain ⟨tt, htt⟩ : ∃ k, k = tl + rest.length := ⟨_, rfl⟩
  have hTs : D ++ [45] ++ m ++ [13, 10] = D ++ 45 :: (m ++ [13, 10]) := by simp
  rw [hTs] at hcm
  have htls : tl = m.length + 6 := by rw [htl]; simp [hd3]; omega
  have hdot : ∀ w : World, Calls Tryd.prog 17 #[.slice (some ⟨w.heap.size, 0, none⟩) 1 1] (w.alloc (.cells #[.string ⟨m.toArray⟩] 9)) fun e w' => e = .returned (.bool true) ∧ (w.alloc (.cells #[.string ⟨m.toArray⟩] 9)) = w' := fun w => by
    have := dotless_any (c := 1) (SL.one w m 9) (n := 1) rfl (by simp; omega) (by simp)
    rw [cleansB_iff.2 (by simpa using hcl)] at this
    exact this
  have HC := Lib.hid hcm
  have HD := Lib.hid (And.intro hdot (And.intro hr (And.intro hs hd3)))
  have HT := Lib.hid (And.intro htl (And.intro htt htls))
  clear hcm hdot hlaw hdc hclA hr hs hTs htl htt htls
  rcases codeErr_cases n x with ⟨hc, hf⟩ | ⟨hc, hf⟩
  all_goals
    rw [hc] at HC
    simp only [Int.reduceEq, if_true, if_false] at HC
    go_enter Tryd.func7, Tryd.ntmps7
    go_wp2_with (first
        | (go_at_call 9; refine (specFits_any n x h100 h999 _).mono ?_; rw [hf, decide_eq_true hx]; rintro e w' ⟨rfl, rfl⟩)
        | (go_at_call 17; refine (HD.out.1 _).mono ?_; rintro e w' ⟨rfl, rfl⟩)
        | (go_at_call 16; refine (hdg _).mono ?_; rintro e w1 ⟨rfl, hb1⟩; have HB1 := Lib.hid hb1; clear hb1)
        | (with_reducible refine at_toBytes ?_; refine wpList_toRawN rfl (.tmp 59) rfl (D ++ 45 :: (m ++ [13, 10])) rfl (by rw [← HT.out.1]; have := HT.out.2.2; omega) tl HT.out.1 ?_; intro c1 w2 hfr hraw; have HR1 := Lib.hid (And.intro hfr hraw); clear hfr hraw)
        | (with_reducible refine at_appendB ?_; refine wpList_append_raw rfl (.tmp 60) (.tmp 61) rfl w1.heap.size (D ++ 45 :: (m ++ [13, 10])) tl c1 HT.out.1 rfl HR1.out.2 A rest rest.length c rfl rfl (HD.out.2.1.below (((Below.refl _ _).alloc (Nat.le_refl _) _).trans ((HB1.out.mono (by simp)).trans (HR1.out.1.below.mono (by have := HB1.out.size; simp at this; omega))))) (by rw [← HT.out.1]; have := HT.out.2.2; omega) tt (by rw [← HT.out.1]; exact HT.out.2.1) ?_; intro A3 c3 w3 hcat; have b3 : Below w.heap.size w w3 := (((Below.refl _ _).alloc (Nat.le_refl _) _).trans ((HB1.out.mono (by simp)).trans (HR1.out.1.below.mono (by have := HB1.out.size; simp at this; omega)))).trans (hcat.below w.heap.size (by have := HB1.out.size; simp at this; omega) (by have := HB1.out.size; have := HR1.out.1.size; simp at *; omega)); have HK := Lib.hid (And.intro hcat b3); clear hcat b3)
        | (go_at_call 18; refine (HC.out w3 A3 tt c3 (HD.out.2.2.1.below HK.out.2) (by rw [List.length_append, ← HT.out.1]; exact HT.out.2.1) HK.out.1.read).mono ?_; rintro e w4 ⟨A4, c4, rfl, hc4, hc4', hrb4, hb4⟩; have H4 := Lib.hid hb4; clear hc4 hc4' hrb4 hb4))
    go_ret
    exact ⟨rfl, HK.out.2.trans (H4.out.mono HK.out.2.size)⟩

set_option maxRecDepth 200000 in
set_option maxHeartbeats 3200000 in
theorem lawMany (E : Nat → Addr) (gs : List Nat) (n : Int) (m : List UInt8) (x : Int) (A : Option Addr) (nr c : Nat) (rest : List UInt8) (hnr : nr = rest.length) (hn : n ≤ 9223372036854775807) (hn' : -9223372036854775808 ≤ n) (hm : m.length ≤ 9223372036854775807) (hrl : rest.length ≤ 9223372036854775807) (w : World) (hr : RB w A rest) (hs : Sens w E gs)
    (hg : 0 ∈ gs) (hk : 1 ∈ gs) (hf : 4 ∈ gs) (hy : 5 ∈ gs) :
    Calls Tryd.prog 7 #[.int .i64 n, .string ⟨m.toArray⟩, .int .i64 x, .slice A nr c] w fun e w' => e = .returned (.bool true) ∧ Below w.heap.size w w' := by
  by_cases h : m.length ≤ 16777216 ∧ rest.length ≤ 16777216 ∧ 100 ≤ n ∧ n ≤ 999 ∧ x < 1000
  · obtain ⟨h1, h2, h3, h4, h5⟩ := h
    by_cases hcl : Clean m
    · exact lawMany_go E gs n m x A nr c rest hnr h1 h2 h3 h4 h5 hcl w hr hs hg hk hf hy
    · have hdot : ∀ w : World, Calls Tryd.prog 17 #[.slice (some ⟨w.heap.size, 0, none⟩) 1 1] (w.alloc (.cells #[.string ⟨m.toArray⟩] 9)) fun e w' => e = .returned (.bool false) ∧ (w.alloc (.cells #[.string ⟨m.toArray⟩] 9)) = w' := fun w => by
        have := dotless_any (c := 1) (SL.one w m 9) (n := 1) rfl (by simp; omega) (by simp)
        rw [show cleansB [m] = false by rw [Bool.eq_false_iff]; exact fun e => hcl (cleansB_iff.1 e m (by simp))] at this
        exact this
      have HD := Lib.hid hdot
      clear hdot hr hs
      subst hnr
      go_enter Tryd.func7, Tryd.ntmps7
      go_wp2_with (first
        | (go_at_call 9; refine (specFits_any n x h3 h4 _).mono ?_; rw [decide_eq_true h5]; rintro e w' ⟨rfl, rfl⟩)
        | (go_at_call 17; refine (HD.out _).mono ?_; rintro e w' ⟨rfl, rfl⟩))
      go_ret
      exact ⟨rfl, (Below.refl _ _).alloc (Nat.le_refl _) _⟩
  · clear hr hs
    subst hnr
    rcases (show 2147483647 < m.length ∨ (m.length ≤ 2147483647 ∧ 2147483647 < rest.length) ∨ (16777216 < m.length ∧ m.length ≤ 2147483647 ∧ rest.length ≤ 2147483647) ∨ (m.length ≤ 16777216 ∧ 16777216 < rest.length ∧ rest.length ≤ 2147483647) ∨ (m.length ≤ 16777216 ∧ rest.length ≤ 16777216 ∧ n < 100) ∨ (m.length ≤ 16777216 ∧ rest.length ≤ 16777216 ∧ 999 < n) ∨ (m.length ≤ 16777216 ∧ rest.length ≤ 16777216 ∧ 100 ≤ n ∧ n ≤ 999 ∧ 1000 ≤ x) by omega) with hc | ⟨hc, hc1⟩ | ⟨hc, hc1, hc2⟩ | ⟨hc, hc1, hc2⟩ | ⟨hc, hc1, hc2⟩ | ⟨hc, hc1, hc2⟩ | ⟨hc, hc1, hc2, hc3, hc4⟩
    all_goals
      clear h
      go_enter Tryd.func7, Tryd.ntmps7
      go_wp2_with (go_at_call 9; refine (specFits_all n x hn hn' _).mono ?_; (try rw [decide_eq_false (show ¬ x < 1000 by omega)]); rintro e w' ⟨⟨q, rfl⟩, rfl⟩)
      all_goals go_ret
      all_goals exact ⟨rfl, Below.refl _ _⟩
end Go.Proofs.YtfnkkjehkegpgaaDoor
