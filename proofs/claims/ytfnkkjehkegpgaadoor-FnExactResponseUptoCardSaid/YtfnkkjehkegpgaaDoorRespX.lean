/- The walk of impl.Response over the text of an answer, and the law's walk. -/
import Derived.Test.YtfnkkjehkegpgaaDoorRespR
import Derived.Test.YtfnkkjehkegpgaaDoorRespT
import Derived.Test.YtfnkkjehkegpgaaDoorRdU
import Derived.Test.YtfnkkjehkegpgaaDoorCodeD
import Derived.Test.YtfnkkjehkegpgaaDoorCat
namespace Go.Proofs.YtfnkkjehkegpgaaDoor
open Go.RowKit

/-- What impl.Response leaves. -/
def RespOut (n : Int) (M : List UInt8) (k : Int) (rest : List UInt8) (w : World) (e : Ending) (w' : World) : Prop :=
  ∃ A c, e = .returned (.tuple #[.int .i64 n, .string ⟨M.toArray⟩, .int .i64 k, .slice A rest.length c]) ∧ rest.length ≤ c ∧ c ≤ 9223372036854775807 ∧ RB w' A rest ∧ Below w.heap.size w w'
set_option maxRecDepth 200000 in
theorem implResponse_any {w : World} {E : Nat → Addr} {gs : List Nat} (hs : Sens w E gs) (hg : 0 ∈ gs) (hk : 1 ∈ gs) (hf : 4 ∈ gs) (hx : 5 ∈ gs) {A : Option Addr} {N c : Nat} {rest : List UInt8} (ls : List AnsL) (n : Int) (h100 : 100 ≤ n) (h999 : n ≤ 999) (hwell : AnsWell ls)
    (hn : N = (ansText n ls ++ rest).length) (hr : RB w A (ansText n ls ++ rest)) (hS : (ansText n ls ++ rest).length ≤ 4398046511104) (x : Int) :
    Calls Tryd.prog 11 #[.slice A N c, .int .i64 x] w (RespOut n (ansMsg ls) (codeErr n x) rest w) := by
  obtain ⟨l, r, rfl⟩ : ∃ l r, ls = l :: r := by
    cases ls with
    | nil => exact hwell.elim
    | cons l r => exact ⟨l, r, rfl⟩
  have hSr : rest.length ≤ 140737488355328 := by rw [List.length_append] at hS; omega
  have hMl : (ansMsg (l :: r)).length ≤ 4398046511104 := by
    have h1 := ansMore_le n (l :: r)
    have h2 : (ansMsg (l :: r)).length ≤ (ansMore (l :: r)).length := by simp [ansMsg, ansMore]
    rw [List.length_append] at hS
    omega
  have hmk := reader_any (c := c) hs hn hr (by omega)
  have hrc := fun (q sb : Nat) (base t p bb : Nat) (buf : Value) (w : World) (h : Tp (KB q sb) base E gs t p bb buf w (ansText n (l :: r) ++ rest)) (hqs : sb ≠ q) => readResponse_any (fillB q sb hqs) l r n h100 h999 hwell h hg hf hx hS hMl x
  generalize codeErr n x = k at hrc ⊢
  generalize ansMsg (l :: r) = M at hrc hMl ⊢
  have H := Lib.hid (And.intro hmk hSr)
  have HC := Lib.hid hrc
  clear hmk hrc hr hs hSr hn hMl
  go_enter Tryd.func11, Tryd.ntmps11
  go_wp2_with (first
    | (go_at_call 20; refine H.out.1.mono ?_; rintro e w1 ⟨q, sb, t, p, bb, rfl, hqs, hT1, hb1⟩; have H1 := Lib.hid (And.intro hqs (And.intro hT1 hb1)); clear hqs hT1 hb1)
    | (go_at_call 21; refine (HC.out _ _ _ _ _ _ _ _ H1.out.2.1 H1.out.1).mono ?_; rintro e w2 ⟨⟨er, hin, hnum, rfl⟩, hT2, hC2⟩; have H2 := Lib.hid (And.intro hin (And.intro hnum (And.intro hT2 hC2))); clear hin hnum hT2 hC2)
    | (go_at_call 22; refine (state_any _ H2.out.2.2.1.sens.s hg hk er H2.out.1).mono ?_; rintro e w3 ⟨rfl, hw3⟩; have H3 := Lib.hid hw3; clear hw3; rw [H2.out.2.1])
    | (go_at_call 23; refine (rest_any H1.out.1 (by rw [← H3.out]; exact H2.out.2.2.1) hg H.out.2).mono ?_; rintro e w4 ⟨⟨A4, c4, rfl, hc4, hc4', hrb4⟩, hb4⟩; have H4 := Lib.hid (And.intro hc4 (And.intro hc4' (And.intro hrb4 hb4))); clear hc4 hc4' hrb4 hb4))
  ((try simp only [Exit.inBlock, Exit.then]); refine bodyPost_ret (results_tmp4 rfl _ _ _) rfl ?_)
  obtain ⟨h1, h2, h3, h4⟩ := H4.out
  obtain ⟨_, hT1, hb1⟩ := H1.out
  have hb2 := hT1.frame H2.out.2.2.2
  refine ⟨A4, c4, rfl, h1, h2, h3, (hb1.trans hb2).trans ?_⟩
  rw [← H3.out] at h4
  exact h4
theorem sum_six : ∀ ls : List AnsL, (ls.map fun l => l.t.length + 6).sum ≤ 3 * (ls.map AnsL.wt).sum
  | [] => by simp
  | l :: r => by
    have := sum_six r
    simp only [List.map_cons, List.sum_cons]
    unfold AnsL.wt at this ⊢
    omega
theorem len_sumA : ∀ ls : List AnsL, ls.length ≤ (ls.map AnsL.wt).sum
  | [] => by simp
  | l :: r => by
    have := len_sumA r
    simp only [List.map_cons, List.sum_cons, List.length_cons]
    unfold AnsL.wt at this ⊢
    omega
set_option maxRecDepth 200000 in
set_option maxHeartbeats 3200000 in
theorem lawResponse (E : Nat → Addr) (gs : List Nat) (n : Int) (A : Option Addr) (N c : Nat) (ls : List AnsL) (x : Int) (Ar : Option Addr) (nr cr : Nat) (rest : List UInt8) (hn : n ≤ 9223372036854775807) (hn' : -9223372036854775808 ≤ n) (hN : N = ls.length) (hl : ∀ l ∈ ls, l.t.length ≤ 9223372036854775807) (hm : ls.length ≤ 9223372036854775807) (hbk : (ls.map AnsL.wt).sum ≤ 1048576) (hnr : nr = rest.length) (hrl : rest.length ≤ 9223372036854775807) (w : World) (hr : AL w A ls) (hrr : RB w Ar rest) (hs : Sens w E gs)
    (hg : 0 ∈ gs) (hk : 1 ∈ gs) (hf : 4 ∈ gs) (hy : 5 ∈ gs) :
    Calls Tryd.prog 3 #[.int .i64 n, .slice A N c, .int .i64 x, .slice Ar nr cr] w fun e w' => e = .returned (.bool true) ∧ Below w.heap.size w w' := by
  subst hN hnr
  have hz := zzFits6_any (c := c) hr rfl hl hm
  have han := fun w1 (h : Below w.heap.size w w1) => answer_any (c := c) n (hr.below h) rfl hl hm
  have HZ := Lib.hid (And.intro hz han)
  clear hz han
  by_cases hsm : rest.length ≤ 16777216
  · by_cases hx1 : x < 1000
    · by_cases hnn : 100 ≤ n ∧ n ≤ 999
      · obtain ⟨h100, h999⟩ := hnn
        have hlen := len_sumA ls
        have h1 := ansText_le n ls
        have h2 := sum_six ls
        have htx := fun w1 (h : Below w.heap.size w w1) (hne : ls ≠ []) => answerText_any (c := c) n h100 h999 (hr.below h) rfl (by omega) (by omega) hne
        have hms := fun w1 (h : Below w.heap.size w w1) (hne : ls ≠ []) => message_any (c := c) (hr.below h) rfl (by
          have h1 := ansMore_le n ls
          have h2 : (ansMsg ls).length ≤ (ansMore ls).length := by cases ls <;> simp [ansMsg, ansMore]
          omega) (by omega) hne
        have him := fun w1 (A1 : Option Addr) (n1 c1 : Nat) (h : Below w.heap.size w w1) (hw : AnsWell ls) (hn1 : n1 = (ansText n ls ++ rest).length) (hr1 : RB w1 A1 (ansText n ls ++ rest)) => implResponse_any (c := c1) (hs.below h) hg hk hf hy ls n h100 h999 hw hn1 hr1 (by rw [List.length_append]; omega) x
        obtain ⟨T, hT⟩ : ∃ T, T = ansText n ls := ⟨_, rfl⟩
        obtain ⟨M, hM⟩ : ∃ M, M = ansMsg ls := ⟨_, rfl⟩
        have hTl : T.length ≤ 3145728 := by rw [hT]; omega
        rw [← hT, ← hM] at him
        rw [← hT] at htx
        rw [← hM] at hms
        obtain ⟨tl, htl⟩ : ∃ tl, tl = T.length := ⟨_, rfl⟩
        obtain ⟨tt, htt⟩ : ∃ tt, tt = tl + rest.length := ⟨_, rfl⟩
        have HC := Lib.hid (And.intro htx (And.intro hms (And.intro him (And.intro hrr (And.intro htl htt)))))
        clear htx hms him hr hrr hs hT hM hlen h1 h2 hbk hl htl htt
        rcases codeErr_cases n x with ⟨hc, hfit⟩ | ⟨hc, hfit⟩
        all_goals
          rw [hc] at HC
          go_enter Tryd.func3, Tryd.ntmps3
          go_upto_if 22 with (go_at_call 8; refine HZ.out.1.mono ?_; rintro e w1 ⟨⟨b1, rfl⟩, hb1⟩; have H1 := Lib.hid hb1; clear hb1; cases b1)
          · go_wp2
            go_ret
            exact ⟨rfl, H1.out⟩
          · go_upto_if 39 with (first
              | (go_at_call 9; refine (specFits_any n x h100 h999 _).mono ?_; rw [hfit, decide_eq_true hx1]; rintro e w' ⟨rfl, rfl⟩)
              | (go_at_call 10; refine (HZ.out.2 _ H1.out).mono ?_; rintro e w2 ⟨b2, rfl, hb2, hw2⟩; have H2 := Lib.hid (And.intro hb2 (H1.out.trans (hw2.mono H1.out.size))); clear hb2 hw2; cases b2))
            · go_wp2
              go_ret
              exact ⟨rfl, H2.out.2⟩
            · obtain ⟨_, _, hne, hlb⟩ := H2.out.1 (by first | rfl | trivial)
              have HW := Lib.hid (And.intro (well_of hlb hne) hne)
              clear hlb hne
              go_wp2_with (first
                | (go_at_call 12; refine (HC.out.1 _ H2.out.2 HW.out.2).mono ?_; rintro e w3 ⟨rfl, hb3⟩; have H3 := Lib.hid (H2.out.2.trans (hb3.mono H2.out.2.size)); clear hb3)
                | (with_reducible refine at_toBytes ?_; refine wpList_toRawN rfl (.tmp 43) rfl T rfl (by omega) tl HC.out.2.2.2.2.1 ?_; intro c1 w4 hfr hraw; have HR1 := Lib.hid (And.intro hfr hraw); clear hfr hraw)
                | (with_reducible refine at_appendB ?_; refine wpList_append_raw rfl (.tmp 44) (.tmp 45) rfl w3.heap.size T tl c1 HC.out.2.2.2.2.1 rfl HR1.out.2 Ar rest rest.length cr rfl rfl (HC.out.2.2.2.1.below (H3.out.trans (HR1.out.1.below.mono H3.out.size))) (by omega) tt (by rw [← HC.out.2.2.2.2.1]; exact HC.out.2.2.2.2.2) ?_; intro A5 c5 w5 hcat; have b5 : Below w.heap.size w w5 := (H3.out.trans (HR1.out.1.below.mono H3.out.size)).trans (hcat.below w.heap.size H3.out.size (by have := H3.out.size; have := HR1.out.1.below.size; omega)); have HK := Lib.hid (And.intro hcat b5); clear hcat b5)
                | (go_at_call 11; refine (HC.out.2.2.1 w5 A5 tt c5 HK.out.2 HW.out.1 (by rw [List.length_append, ← HC.out.2.2.2.2.1]; exact HC.out.2.2.2.2.2) HK.out.1.read).mono ?_; rintro e w6 ⟨A6, c6, rfl, hc6, hc6', hrb6, hb6⟩; have H6 := Lib.hid (And.intro hrb6 (HK.out.2.trans (hb6.mono HK.out.2.size))); clear hc6 hc6' hrb6 hb6)
                | (go_at_call 13; refine (HC.out.2.1 _ H6.out.2 HW.out.2).mono ?_; rintro e w7 ⟨rfl, hb7⟩; have st1 := run_toStringR (n := rest.length) (c := c6) rfl (H6.out.1.below hb7); have st2 := run_toStringR (n := rest.length) (c := cr) rfl (HC.out.2.2.2.1.below (H6.out.2.trans (hb7.mono H6.out.2.size))); have H7 := Lib.hid (H6.out.2.trans (hb7.mono H6.out.2.size)); clear hb7))
              go_ret
              exact ⟨rfl, H7.out⟩
      · clear hr hrr hs
        have hq : ∀ b : Bool, (b = true → 100 ≤ n ∧ n ≤ 999 ∧ ls ≠ [] ∧ linesB ls ls.length) → b = false := fun b h => by
          cases b
          · rfl
          · exact absurd ⟨(h rfl).1, (h rfl).2.1⟩ hnn
        have HQ := Lib.hid hq
        clear hq hnn
        go_enter Tryd.func3, Tryd.ntmps3
        go_upto_if 22 with (go_at_call 8; refine HZ.out.1.mono ?_; rintro e w1 ⟨⟨b1, rfl⟩, hb1⟩; have H1 := Lib.hid hb1; clear hb1; cases b1)
        · go_wp2
          go_ret
          exact ⟨rfl, H1.out⟩
        · go_wp2_with (first
            | (go_at_call 9; refine (specFits_all n x hn hn' _).mono ?_; rw [decide_eq_true hx1]; rintro e w' ⟨⟨q, rfl⟩, rfl⟩)
            | (go_at_call 10; refine (HZ.out.2 _ H1.out).mono ?_; rintro e w2 ⟨b2, rfl, hb2, hw2⟩; obtain rfl := HQ.out _ hb2; have H2 := Lib.hid (H1.out.trans (hw2.mono H1.out.size)); clear hb2 hw2))
          go_ret
          exact ⟨rfl, H2.out⟩
    · clear hr hrr hs
      go_enter Tryd.func3, Tryd.ntmps3
      go_upto_if 22 with (go_at_call 8; refine HZ.out.1.mono ?_; rintro e w1 ⟨⟨b1, rfl⟩, hb1⟩; have H1 := Lib.hid hb1; clear hb1; cases b1)
      · go_wp2
        go_ret
        exact ⟨rfl, H1.out⟩
      · go_wp2_with (go_at_call 9; refine (specFits_all n x hn hn' _).mono ?_; rw [decide_eq_false (show ¬ x < 1000 by omega)]; rintro e w' ⟨⟨q, rfl⟩, rfl⟩)
        go_ret
        exact ⟨rfl, H1.out⟩
  · clear hr hrr hs
    go_enter Tryd.func3, Tryd.ntmps3
    go_upto_if 22 with (go_at_call 8; refine HZ.out.1.mono ?_; rintro e w1 ⟨⟨b1, rfl⟩, hb1⟩; have H1 := Lib.hid hb1; clear hb1; cases b1)
    · go_wp2
      go_ret
      exact ⟨rfl, H1.out⟩
    · go_wp2
      all_goals go_ret
      all_goals exact ⟨rfl, H1.out⟩
end Go.Proofs.YtfnkkjehkegpgaaDoor
