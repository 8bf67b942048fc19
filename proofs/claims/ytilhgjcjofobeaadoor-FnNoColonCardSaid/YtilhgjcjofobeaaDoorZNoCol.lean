/- The law FnNoColon. -/
import Derived.Test.YtilhgjcjofobeaaDoorZSpJ
import Derived.Test.YtilhgjcjofobeaaDoorZSpK
import Derived.Test.YtilhgjcjofobeaaDoorZHdW
import Derived.Test.YtilhgjcjofobeaaDoorZCat
namespace Go.Proofs.YtilhgjcjofobeaaDoor
open Go.RowKit

set_option maxRecDepth 200000 in
set_option maxHeartbeats 6400000 in
theorem lawNoColon (E : Nat → Addr) (gs : List Nat) (A : Option Addr) (n c : Nat) (Fs : List FieldR) (lb : List UInt8) (Ar : Option Addr) (nr cr : Nat) (rest : List UInt8) (hn : n = Fs.length) (hl : ∀ F ∈ Fs, F.len) (hm : Fs.length ≤ 9223372036854775807) (hlb : lb.length ≤ 9223372036854775807)
    (hnr : nr = rest.length) (hrl : rest.length ≤ 9223372036854775807) (w : World) (hr : FL w A Fs) (hrr : RB w Ar rest) (hs : Sens w E gs) (hg : 0 ∈ gs) (hk : 1 ∈ gs) (hf : 5 ∈ gs) :
    Calls Tryd.prog 3 #[.slice A n c, .string ⟨lb.toArray⟩, .slice Ar nr cr] w fun e w' => e = .returned (.bool true) ∧ Below w.heap.size w w' := by
  subst hn hnr
  have hz := zzFits4_any (c := c) hr rfl hl hm
  obtain ⟨b1, hb1⟩ : ∃ b1, b1 = (decide (Fs.length ≤ 2147483647) && Fs.all fits5) := ⟨_, rfl⟩
  rw [← hb1] at hz
  have HZ := Lib.hid hz
  have HFT := Lib.hid (fun h : b1 = true => fits_all (hb1.symm.trans h))
  clear hz hb1
  cases b1
  · clear hr hrr hs hl hm
    go_enter Tryd.func3, Tryd.ntmps3
    go_wp2_with (go_at_call 5; refine HZ.out.mono ?_; rintro e w1 ⟨rfl, hb⟩; have HB := Lib.hid hb; clear hb)
    go_ret
    exact ⟨rfl, HB.out⟩
  by_cases hll : lb.length ≤ 16777216
  rotate_left
  · clear hr hrr hs hl hm
    by_cases hbig : lb.length ≤ 2147483647
    · have i1 : ¬ (2147483647 : Int) < (lb.length : Int) := by omega
      have i2 : (16777216 : Int) < (lb.length : Int) := by omega
      clear hll hbig
      by_cases hbig2 : rest.length ≤ 2147483647
      · have i3 : ¬ (2147483647 : Int) < (rest.length : Int) := by omega
        clear hbig2
        go_enter Tryd.func3, Tryd.ntmps3
        go_wp2_with (go_at_call 5; refine HZ.out.mono ?_; rintro e w1 ⟨rfl, hb⟩; have HB := Lib.hid hb; clear hb)
        go_ret
        exact ⟨rfl, HB.out⟩
      · have i3 : (2147483647 : Int) < (rest.length : Int) := by omega
        clear hbig2
        go_enter Tryd.func3, Tryd.ntmps3
        go_wp2_with (go_at_call 5; refine HZ.out.mono ?_; rintro e w1 ⟨rfl, hb⟩; have HB := Lib.hid hb; clear hb)
        go_ret
        exact ⟨rfl, HB.out⟩
    · have i1 : (2147483647 : Int) < (lb.length : Int) := by omega
      clear hll hbig
      go_enter Tryd.func3, Tryd.ntmps3
      go_wp2_with (go_at_call 5; refine HZ.out.mono ?_; rintro e w1 ⟨rfl, hb⟩; have HB := Lib.hid hb; clear hb)
      go_ret
      exact ⟨rfl, HB.out⟩
  have j1 : ¬ (2147483647 : Int) < (lb.length : Int) := by omega
  have j2 : ¬ (16777216 : Int) < (lb.length : Int) := by omega
  by_cases hsm : rest.length ≤ 16777216
  rotate_left
  · clear hr hrr hs hl hm
    by_cases hbig : rest.length ≤ 2147483647
    · have i1 : ¬ (2147483647 : Int) < (rest.length : Int) := by omega
      have i2 : (16777216 : Int) < (rest.length : Int) := by omega
      clear hsm hbig
      go_enter Tryd.func3, Tryd.ntmps3
      go_wp2_with (go_at_call 5; refine HZ.out.mono ?_; rintro e w1 ⟨rfl, hb⟩; have HB := Lib.hid hb; clear hb)
      go_ret
      exact ⟨rfl, HB.out⟩
    · have i1 : (2147483647 : Int) < (rest.length : Int) := by omega
      clear hsm hbig
      go_enter Tryd.func3, Tryd.ntmps3
      go_wp2_with (go_at_call 5; refine HZ.out.mono ?_; rintro e w1 ⟨rfl, hb⟩; have HB := Lib.hid hb; clear hb)
      go_ret
      exact ⟨rfl, HB.out⟩
  have hfi := fun w1 (h : Below w.heap.size w w1) => fields_any (c := c) (hr.below h) rfl hl (HFT.out rfl) hm
  obtain ⟨b2, hb2⟩ : ∃ b2, b2 = (Fs.all okF && decide (Fs.length ≤ 100)) := ⟨_, rfl⟩
  rw [← hb2] at hfi
  have i1 : ¬ (2147483647 : Int) < (rest.length : Int) := by omega
  have i2 : ¬ (16777216 : Int) < (rest.length : Int) := by omega
  have HF := Lib.hid hfi
  have HB2 := Lib.hid hb2
  have HA := Lib.hid (And.intro hr (And.intro hrr (And.intro hs (And.intro hl (And.intro trivial (And.intro hll hsm))))))
  clear hfi hb2 hr hrr hs hl hm hsm
  cases b2
  · go_enter Tryd.func3, Tryd.ntmps3
    go_wp2_with (first
      | (go_at_call 5; refine HZ.out.mono ?_; rintro e w1 ⟨rfl, hb⟩; have HB := Lib.hid hb; clear hb)
      | (go_at_call 6; refine (HF.out _ HB.out).mono ?_; rintro e w2 ⟨rfl, hb⟩; have HB3 := Lib.hid (HB.out.trans (hb.mono HB.out.size)); clear hb))
    go_ret
    exact ⟨rfl, HB3.out⟩
  have hbr := fun W => bare_any lb (by omega) W
  obtain ⟨b3, hb3⟩ : ∃ b3, b3 = bareB lb := ⟨_, rfl⟩
  rw [← hb3] at hbr
  have HR := Lib.hid hbr
  have HB3 := Lib.hid hb3
  clear hbr hb3
  cases b3
  · go_enter Tryd.func3, Tryd.ntmps3
    go_wp2_with (first
      | (go_at_call 5; refine HZ.out.mono ?_; rintro e w1 ⟨rfl, hb⟩; have HB := Lib.hid hb; clear hb)
      | (go_at_call 6; refine (HF.out _ HB.out).mono ?_; rintro e w2 ⟨rfl, hb⟩; have HB4 := Lib.hid (HB.out.trans (hb.mono HB.out.size)); clear hb)
      | (go_at_call 7; refine (HR.out _).mono ?_; rintro e w3 ⟨rfl, rfl⟩))
    go_ret
    exact ⟨rfl, HB4.out⟩
  by_cases hne : lb = []
  · subst hne
    go_enter Tryd.func3, Tryd.ntmps3
    go_wp2_with (first
      | (go_at_call 5; refine HZ.out.mono ?_; rintro e w1 ⟨rfl, hb⟩; have HB := Lib.hid hb; clear hb)
      | (go_at_call 6; refine (HF.out _ HB.out).mono ?_; rintro e w2 ⟨rfl, hb⟩; have HB4 := Lib.hid (HB.out.trans (hb.mono HB.out.size)); clear hb)
      | (go_at_call 7; refine (HR.out _).mono ?_; rintro e w3 ⟨rfl, rfl⟩))
    go_ret
    exact ⟨rfl, HB4.out⟩
  have k0 : (lb == []) = false := by rw [beq_eq_false_iff_ne]; exact hne
  have HNE := Lib.hid hne
  clear hne
  by_cases h998 : (998 : Int) < (lb.length : Int)
  · go_enter Tryd.func3, Tryd.ntmps3
    go_wp2_with (first
      | (go_at_call 5; refine HZ.out.mono ?_; rintro e w1 ⟨rfl, hb⟩; have HB := Lib.hid hb; clear hb)
      | (go_at_call 6; refine (HF.out _ HB.out).mono ?_; rintro e w2 ⟨rfl, hb⟩; have HB4 := Lib.hid (HB.out.trans (hb.mono HB.out.size)); clear hb)
      | (go_at_call 7; refine (HR.out _).mono ?_; rintro e w3 ⟨rfl, rfl⟩))
    go_ret
    exact ⟨rfl, HB4.out⟩
  go_enter Tryd.func3, Tryd.ntmps3
  go_wp2_with (first
    | (go_at_call 5; refine HZ.out.mono ?_; rintro e w1 ⟨rfl, hb⟩; have HB := Lib.hid hb; clear hb)
    | (go_at_call 6; refine (HF.out _ HB.out).mono ?_; rintro e w2 ⟨rfl, hb⟩; have HB4 := Lib.hid (HB.out.trans (hb.mono HB.out.size)); clear hb)
    | (go_at_call 7; refine (HR.out _).mono ?_; rintro e w3 ⟨rfl, rfl⟩))
  go_loopg [6, 7] lb.length (fun gk _ i wr => ∃ k : Nat, k + gk = lb.length ∧ i = .int .i64 k ∧ Hid (58 ∉ lb.take k) ∧ Hid (Below w.heap.size w wr))
  case atStart => exact ⟨0, by omega, rfl, Lib.hid (by simp), HB4⟩
  case round =>
    obtain ⟨k, hkk, rfl, hno, hb⟩ := hrel
    by_cases hlt : k < lb.length
    · have hix : lb[k]? = some lb[k] := List.getElem?_eq_getElem hlt
      by_cases h58 : lb[k] = 58
      · have q58 : ((lb[k].toNat : Int) == 58) = true := by rw [h58]; rfl
        clear h58
        go_wp2
        go_ret
        exact ⟨rfl, hb.out⟩
      · have q58 : ((lb[k].toNat : Int) == 58) = false := by rw [beq_eq_false_iff_ne]; exact fun e => h58 ((byte_eq_iff lb[k] 58).1 e)
        have HN := Lib.hid (take_succ_no hlt hno.out h58)
        clear h58
        go_wp2
        go_roundg (gk - 1)
        case measure => omega
        case rel => exact ⟨k + 1, by omega, by go_num, HN, hb⟩
    · have hnc := hno.out
      rw [List.take_of_length_le (by omega)] at hnc
      obtain rfl : k = lb.length := by omega
      clear hno
      obtain ⟨hr, hrr, hs, hl, -, hll, hsm⟩ := HA.out
      have hbk := ok_sum HB2.out.symm
      have hgood : ∀ F ∈ Fs, goodF F = true := fun F hF => by
        have h1 := HB2.out.symm
        simp only [Bool.and_eq_true] at h1
        have h2 := List.all_eq_true.1 h1.1 F hF
        unfold okF at h2
        simp only [Bool.and_eq_true] at h2
        exact h2.1
      have h100 : Fs.length ≤ 100 := by
        have h1 := HB2.out.symm
        simp only [Bool.and_eq_true, decide_eq_true_eq] at h1
        exact h1.2
      have hwell : ∀ F ∈ Fs, wellB F.val = true := fun F hF => by
        have h1 := hgood F hF
        unfold goodF at h1
        simp only [Bool.and_eq_true] at h1
        exact h1.2
      have hbp : BareP lb := bareP_of HB3.out.symm
      have hfl := fieldsT_le Fs hwell
      have htx := fun w1 (h : Below w.heap.size w w1) => fieldsText_any (c := c) (hr.below h) rfl hl hbk hwell
      have hX : ∀ c t, lb ++ ([13, 10] ++ ([13, 10] ++ rest)) = c :: t → blank c = false := fun c t e => by
        obtain ⟨a, u, hau⟩ := List.exists_cons_of_ne_nil HNE.out
        have h1 := hbp.head_blank hau
        rw [hau] at e
        injection e with e _
        rw [← e]; exact h1
      have hok := hok_fields hX (fun line er R hcs => says_bad hbp.flat HNE.out hnc hcs) Fs (fun _ => []) hgood
      have hhead := fieldsT_head hgood hX
      obtain ⟨TX, hTX⟩ : ∃ TX, TX = fieldsT Fs := ⟨_, rfl⟩
      rw [← hTX] at htx hok hhead hfl
      obtain ⟨D, hD⟩ : ∃ D, D = TX ++ (lb ++ [13, 10, 13, 10]) := ⟨_, rfl⟩
      have hDr : TX ++ (lb ++ ([13, 10] ++ ([13, 10] ++ rest))) = D ++ rest := by rw [hD]; simp
      rw [hDr] at hok hhead
      have hDl : D.length = TX.length + (lb.length + 4) := by rw [hD]; simp
      have hne : D ++ rest ≠ [] := by
        intro e
        have := congrArg List.length e
        rw [List.length_append, hDl] at this
        simp at this
      obtain ⟨c0, t0, hct⟩ := List.exists_cons_of_ne_nil hne
      have him := fun w1 (A1 : Option Addr) (n1 c1 : Nat) (h : Below w.heap.size w w1) (hn1 : n1 = (D ++ rest).length) (hr1 : RB w1 A1 (D ++ rest)) => implHeaders_any (c := c1) (hs.below h) hn1 hr1 (by rw [List.length_append]; omega) hct (hhead c0 t0 hct) hg hk hf hok (by omega) trivial (by simp only [List.length_append, List.length_cons, List.length_nil]; omega)
      obtain ⟨tl, htl⟩ : ∃ tl, tl = D.length := ⟨_, rfl⟩
      obtain ⟨tt, htt⟩ : ∃ tt, tt = tl + rest.length := ⟨_, rfl⟩
      have HC := Lib.hid (And.intro htx (And.intro him (And.intro hrr (And.intro htl (And.intro htt (And.intro hD (And.intro hDl (And.intro hfl hbk))))))))
      have hTXl : TX.length ≤ 24117248 := by omega
      have hDl2 : D.length ≤ 30000000 := by omega
      clear htx him hr hrr hs hl hbk hgood h100 hwell hbp hfl hX hok hhead hTX hDr hDl hne hct htl htt hnc hlt
      go_wp2_with (first
        | (go_at_call 9; refine (HC.out.1 _ hb.out).mono ?_; rintro e w3 ⟨rfl, hb3⟩; have H3 := Lib.hid (hb.out.trans (hb3.mono hb.out.size)); clear hb3)
        | (with_reducible refine at_toBytes ?_; refine wpList_toRawN rfl (.tmp 64) rfl (TX ++ (lb ++ [13, 10, 13, 10])) rfl (by rw [← HC.out.2.2.2.2.2.1]; omega) tl (by rw [← HC.out.2.2.2.2.2.1]; exact HC.out.2.2.2.1) ?_; rw [← HC.out.2.2.2.2.2.1]; intro c1 w4 hfr hraw; have HR1 := Lib.hid (And.intro hfr hraw); clear hfr hraw)
        | (with_reducible refine at_appendB ?_; refine wpList_append_raw rfl (.tmp 65) (.tmp 66) rfl w3.heap.size D tl c1 HC.out.2.2.2.1 rfl HR1.out.2 Ar rest rest.length cr rfl rfl (HC.out.2.2.1.below (H3.out.trans (HR1.out.1.below.mono H3.out.size))) (by have := HA.out.2.2.2.2.2.2; omega) tt (by rw [← HC.out.2.2.2.1]; exact HC.out.2.2.2.2.1) ?_; intro A5 c5 w5 hcat; have b5 : Below w.heap.size w w5 := (H3.out.trans (HR1.out.1.below.mono H3.out.size)).trans (hcat.below w.heap.size H3.out.size (by have := H3.out.size; have := HR1.out.1.below.size; omega)); have HKK := Lib.hid (And.intro hcat b5); clear hcat b5)
        | (go_at_call 8; refine (HC.out.2.1 w5 A5 tt c5 HKK.out.2 (by rw [List.length_append, ← HC.out.2.2.2.1]; exact HC.out.2.2.2.2.1) HKK.out.1.read).mono ?_; rintro e w6 ⟨A6, A7, c6, c7, X6, rfl, _, _, _, _, _, _, _, _, hb6⟩; rw [show (Er.proto colonMsg).num = 3 from rfl]; have H6 := Lib.hid (HKK.out.2.trans (hb6.mono HKK.out.2.size)); clear hb6))
      go_ret
      exact ⟨rfl, H6.out⟩
end Go.Proofs.YtilhgjcjofobeaaDoor
