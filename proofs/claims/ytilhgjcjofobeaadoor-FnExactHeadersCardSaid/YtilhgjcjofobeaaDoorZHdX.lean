/- The law FnExactHeaders. -/
import Derived.Test.YtilhgjcjofobeaaDoorZSpJ
import Derived.Test.YtilhgjcjofobeaaDoorZSpK
import Derived.Test.YtilhgjcjofobeaaDoorZHdW
import Derived.Test.YtilhgjcjofobeaaDoorZCat
import Derived.Test.YtilhgjcjofobeaaDoorZSpH
import Derived.Test.YtilhgjcjofobeaaDoorZEqH
namespace Go.Proofs.YtilhgjcjofobeaaDoor
open Go.RowKit Go.Maps

set_option maxRecDepth 200000 in
set_option maxHeartbeats 6400000 in
theorem lawHeaders (E : Nat → Addr) (gs : List Nat) (A : Option Addr) (n c : Nat) (Fs : List FieldR) (Ar : Option Addr) (nr cr : Nat) (rest : List UInt8) (hn : n = Fs.length) (hl : ∀ F ∈ Fs, F.len) (hm : Fs.length ≤ 9223372036854775807)
    (hnr : nr = rest.length) (hrl : rest.length ≤ 9223372036854775807) (w : World) (hr : FL w A Fs) (hrr : RB w Ar rest) (hs : Sens w E gs) (hg : 0 ∈ gs) (hk : 1 ∈ gs) (hf : 5 ∈ gs) :
    Calls Tryd.prog 4 #[.slice A n c, .slice Ar nr cr] w fun e w' => e = .returned (.bool true) ∧ Below w.heap.size w w' := by
  subst hn hnr
  have hz := zzFits4_any (c := c) hr rfl hl hm
  obtain ⟨b1, hb1⟩ : ∃ b1, b1 = (decide (Fs.length ≤ 2147483647) && Fs.all fits5) := ⟨_, rfl⟩
  rw [← hb1] at hz
  have HZ := Lib.hid hz
  have HFT := Lib.hid (fun h : b1 = true => fits_all (hb1.symm.trans h))
  clear hz hb1
  cases b1
  · clear hr hrr hs hl hm
    go_enter Tryd.func4, Tryd.ntmps4
    go_wp2_with (go_at_call 5; refine HZ.out.mono ?_; rintro e w1 ⟨rfl, hb⟩; have HB := Lib.hid hb; clear hb)
    go_ret
    exact ⟨rfl, HB.out⟩
  by_cases hsm : rest.length ≤ 16777216
  rotate_left
  · clear hr hrr hs hl hm
    by_cases hbig : rest.length ≤ 2147483647
    · have i1 : ¬ (2147483647 : Int) < (rest.length : Int) := by omega
      have i2 : (16777216 : Int) < (rest.length : Int) := by omega
      clear hsm hbig
      go_enter Tryd.func4, Tryd.ntmps4
      go_wp2_with (go_at_call 5; refine HZ.out.mono ?_; rintro e w1 ⟨rfl, hb⟩; have HB := Lib.hid hb; clear hb)
      go_ret
      exact ⟨rfl, HB.out⟩
    · have i1 : (2147483647 : Int) < (rest.length : Int) := by omega
      clear hsm hbig
      go_enter Tryd.func4, Tryd.ntmps4
      go_wp2_with (go_at_call 5; refine HZ.out.mono ?_; rintro e w1 ⟨rfl, hb⟩; have HB := Lib.hid hb; clear hb)
      go_ret
      exact ⟨rfl, HB.out⟩
  have hfi := fun w1 (h : Below w.heap.size w w1) => fields_any (c := c) (hr.below h) rfl hl (HFT.out rfl) hm
  obtain ⟨b2, hb2⟩ : ∃ b2, b2 = (Fs.all okF && decide (Fs.length ≤ 100)) := ⟨_, rfl⟩
  rw [← hb2] at hfi
  have i1 : ¬ (2147483647 : Int) < (rest.length : Int) := by omega
  have i2 : ¬ (16777216 : Int) < (rest.length : Int) := by omega
  have HF := Lib.hid hfi
  cases b2
  · clear hfi hb2 hr hrr hs hl hm hsm
    go_enter Tryd.func4, Tryd.ntmps4
    go_wp2_with (first
      | (go_at_call 5; refine HZ.out.mono ?_; rintro e w1 ⟨rfl, hb⟩; have HB := Lib.hid hb; clear hb)
      | (go_at_call 6; refine (HF.out _ HB.out).mono ?_; rintro e w2 ⟨rfl, hb⟩; have HB3 := Lib.hid (HB.out.trans (hb.mono HB.out.size)); clear hb))
    go_ret
    exact ⟨rfl, HB3.out⟩
  have hbk := ok_sum hb2.symm
  have hmm := (fwt_le Fs _ hbk)
  have hgood : ∀ F ∈ Fs, goodF F = true := fun F hF => by
    have h1 := hb2.symm
    simp only [Bool.and_eq_true] at h1
    have h2 := List.all_eq_true.1 h1.1 F hF
    unfold okF at h2
    simp only [Bool.and_eq_true] at h2
    exact h2.1
  have h100 : Fs.length ≤ 100 := by
    have h1 := hb2.symm
    simp only [Bool.and_eq_true, decide_eq_true_eq] at h1
    exact h1.2
  have hwell : ∀ F ∈ Fs, wellB F.val = true := fun F hF => by
    have h1 := hgood F hF
    unfold goodF at h1
    simp only [Bool.and_eq_true] at h1
    exact h1.2
  have hfl := fieldsT_le Fs hwell
  have htx := fun w1 (h : Below w.heap.size w w1) => fieldsText_any (c := c) (hr.below h) rfl hl hbk hwell
  have hsh := fun w1 (h : Below w.heap.size w w1) => specHeader_any (c := c) (hr.below h) rfl hl (fun F hF => hmm.2 F hF) h100
  have hX : ∀ c t, [13, 10] ++ rest = c :: t → blank c = false := fun c t e => by
    injection e with e _
    rw [← e]; rfl
  have hok := hok_fields hX (fun line er R hcs => says_end hcs) Fs (fun _ => []) hgood
  have hhead := fieldsT_head hgood hX
  obtain ⟨ff, hff⟩ : ∃ ff, ff = Fs.foldl addF (fun _ => []) := ⟨_, rfl⟩
  rw [← hff] at hok
  obtain ⟨TX, hTX⟩ : ∃ TX, TX = fieldsT Fs := ⟨_, rfl⟩
  rw [← hTX] at htx hok hhead hfl
  obtain ⟨D, hD⟩ : ∃ D, D = TX ++ [13, 10] := ⟨_, rfl⟩
  have hDr : TX ++ ([13, 10] ++ rest) = D ++ rest := by rw [hD]; simp
  rw [hDr] at hok hhead
  have hDl : D.length = TX.length + 2 := by rw [hD]; simp
  have hne : D ++ rest ≠ [] := by
    intro e
    have := congrArg List.length e
    rw [List.length_append, hDl] at this
    simp at this
  obtain ⟨c0, t0, hct⟩ := List.exists_cons_of_ne_nil hne
  have him := fun w1 (A1 : Option Addr) (n1 c1 : Nat) (h : Below w.heap.size w w1) (hn1 : n1 = (D ++ rest).length) (hr1 : RB w1 A1 (D ++ rest)) => implHeaders_any (c := c1) (hs.below h) hn1 hr1 (by rw [List.length_append]; omega) hct (hhead c0 t0 hct) hg hk hf hok (by omega) trivial (by rw [List.length_append]; omega)
  obtain ⟨tl, htl⟩ : ∃ tl, tl = D.length := ⟨_, rfl⟩
  obtain ⟨tt, htt⟩ : ∃ tt, tt = tl + rest.length := ⟨_, rfl⟩
  have HC := Lib.hid (And.intro htx (And.intro him (And.intro hrr (And.intro htl (And.intro htt (And.intro hD (And.intro hDl (And.intro hsh (And.intro hff (And.intro h100 hsm))))))))))
  have hTXl : TX.length ≤ 24117248 := by omega
  have hDl2 : D.length ≤ 30000000 := by omega
  clear htx him hr hrr hs hl hbk hgood h100 hwell hfl hX hok hhead hTX hDr hDl hne hct htl htt hsh hff hfi hb2 hmm hm hsm hD
  go_enter Tryd.func4, Tryd.ntmps4
  go_wp2_with (first
    | (go_at_call 5; refine HZ.out.mono ?_; rintro e w1 ⟨rfl, hb⟩; have HB := Lib.hid hb; clear hb)
    | (go_at_call 6; refine (HF.out _ HB.out).mono ?_; rintro e w2 ⟨rfl, hb⟩; have HB4 := Lib.hid (HB.out.trans (hb.mono HB.out.size)); clear hb)
    | (go_at_call 9; refine (HC.out.1 _ HB4.out).mono ?_; rintro e w3 ⟨rfl, hb3⟩; have H3 := Lib.hid (HB4.out.trans (hb3.mono HB4.out.size)); clear hb3)
    | (with_reducible refine at_toBytes ?_; refine wpList_toRawN rfl (.tmp 25) rfl (TX ++ [13, 10]) rfl (by rw [← HC.out.2.2.2.2.2.1]; omega) tl (by rw [← HC.out.2.2.2.2.2.1]; exact HC.out.2.2.2.1) ?_; rw [← HC.out.2.2.2.2.2.1]; intro c1 w4 hfr hraw; have HR1 := Lib.hid (And.intro hfr hraw); clear hfr hraw)
    | (with_reducible refine at_appendB ?_; refine wpList_append_raw rfl (.tmp 26) (.tmp 27) rfl w3.heap.size D tl c1 HC.out.2.2.2.1 rfl HR1.out.2 Ar rest rest.length cr rfl rfl (HC.out.2.2.1.below (H3.out.trans (HR1.out.1.below.mono H3.out.size))) (by have := HC.out.2.2.2.2.2.2.2.2.2.2; omega) tt (by rw [← HC.out.2.2.2.1]; exact HC.out.2.2.2.2.1) ?_; intro A5 c5 w5 hcat; have b5 : Below w.heap.size w w5 := (H3.out.trans (HR1.out.1.below.mono H3.out.size)).trans (hcat.below w.heap.size H3.out.size (by have := H3.out.size; have := HR1.out.1.below.size; omega)); have HKK := Lib.hid (And.intro hcat b5); clear hcat b5)
    | (go_at_call 8; refine (HC.out.2.1 w5 A5 tt c5 HKK.out.2 (by rw [List.length_append, ← HC.out.2.2.2.1]; exact HC.out.2.2.2.2.1) HKK.out.1.read).mono ?_; rintro e w6 ⟨A6, A7, c6, c7, X6, rfl, hkr6, hrb6, _, _, hv6, hs6, hk6, hl6, hb6⟩; rw [show Er.nil.num = 0 from rfl]; have H6 := Lib.hid (And.intro (HKK.out.2.trans (hb6.mono HKK.out.2.size)) (And.intro hkr6 (And.intro hrb6 (And.intro hv6 (And.intro hs6 (And.intro hk6 hl6)))))); clear hkr6 hrb6 hv6 hs6 hk6 hl6 hb6)
    | (go_at_call 11; refine (HC.out.2.2.2.2.2.2.2.1 _ H6.out.1).mono ?_; rintro e w8 ⟨A8, c8, E8, rfl, hO8, hk8, hE8, hfl8, hb8⟩; refine Hid.out ?_))
  have H8 := Lib.hid (And.intro hO8 (And.intro hk8 (And.intro hE8 (And.intro hfl8 hb8))))
  have hb08 : Below w.heap.size w w8 := H6.out.1.trans (hb8.mono H6.out.1.size)
  have hff := HC.out.2.2.2.2.2.2.2.2.1
  have hkeq : (X6.map unH).map (·.1) = E8.map (·.1) := by
    rw [List.map_map]
    refine sorted_unique (List.pairwise_map.2 H6.out.2.2.2.2.1) hO8.sorted (fun q => ?_)
    have h1 : q ∈ X6.map (·.1) ↔ ff q ≠ [] := H6.out.2.2.2.2.2.1 q
    have h2 := hk8 q
    rw [← hff] at h2
    exact h1.trans h2.symm
  have hlen8 : E8.length = (X6.map unH).length := by have := congrArg List.length hkeq; simpa using this.symm
  have hkr8 : KR w8 A8 E8 := by
    obtain ⟨A0, cz, e0, _, _, hkr, _⟩ := hO8.own.form
    injection e0 with ea _ ec
    rw [ea]; exact hkr
  have hkr68 : KR w8 A6 (X6.map unH) := H6.out.2.1.below hb8
  have hv68 : ∀ e ∈ X6.map unH, ∃ A c, e.2 = .slice A (ff e.1).length c ∧ SL w8 A (ff e.1) := fun e he => by
    obtain ⟨x, hx, rfl⟩ := List.mem_map.1 he
    obtain ⟨A, c, n, h1, h2, h3⟩ := H6.out.2.2.2.1 x hx
    refine ⟨A, c, ?_, h3.below hb8⟩
    show Value.slice x.2.1 x.2.2.1 x.2.2.2 = _
    rw [h1, h2]; rfl
  have hv88 : ∀ e ∈ E8, ∃ A c, e.2 = .slice A (ff e.1).length c ∧ SL w8 A (ff e.1) := fun e he => by
    have h1 := hO8.vals e he
    rw [← hff] at h1
    obtain ⟨A, c, h2, _, _, h3⟩ := h1.form
    exact ⟨A, c, h2, h3⟩
  have hsame := sameHeader_any (c := c6) (d := c8) (n := X6.length) (m := E8.length) (by simp) hlen8 hkr68 hkr8 hkeq hv68 hv88 (by have := H6.out.2.2.2.2.2.2; simp; omega) (fun q => by have h1 := hfl8 q; rw [← hff] at h1; have := HC.out.2.2.2.2.2.2.2.2.2.1; omega)
  have HS := Lib.hid (And.intro hsame hb08)
  clear hsame hb08 hkeq hlen8 hkr8 hkr68 hv68 hv88 hff hO8 hk8 hE8 hfl8 hb8
  refine Lib.hid ?_
  go_wp2_with (go_at_call 10; refine HS.out.1.mono ?_; rintro e w9 ⟨rfl, hb9⟩; have st1 := run_toStringR (n := rest.length) (c := c7) rfl (H6.out.2.2.1.below (H8.out.2.2.2.2.trans (hb9.mono H8.out.2.2.2.2.size))); have st2 := run_toStringR (n := rest.length) (c := cr) rfl (HC.out.2.2.1.below (HS.out.2.trans (hb9.mono HS.out.2.size))); have H9 := Lib.hid (HS.out.2.trans (hb9.mono HS.out.2.size)); clear hb9)
  go_ret
  exact ⟨rfl, H9.out⟩
end Go.Proofs.YtilhgjcjofobeaaDoor
