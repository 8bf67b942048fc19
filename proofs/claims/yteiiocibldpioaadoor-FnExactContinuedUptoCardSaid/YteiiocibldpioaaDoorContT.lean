/- FnExactContinued: the plain law of the reference's long lines, and the law's walk. -/
import Derived.Test.YteiiocibldpioaaDoorContR
import Derived.Test.YteiiocibldpioaaDoorSpecI
import Derived.Test.YteiiocibldpioaaDoorCat
import Derived.Test.YteiiocibldpioaaDoorLinesY
namespace Go.Proofs.YteiiocibldpioaaDoor
open Go.RowKit

def toL (L : LongR) : LongL := ⟨L.ps.headD [], L.ps.tail, L.bl, L.feed⟩
theorem bareP_of {p : List UInt8} (h : bareB p = true) : BareP p := by
  unfold bareB at h
  simp only [Bool.and_eq_true, bne_iff_ne, ne_eq] at h
  obtain ⟨h1, h2, h3⟩ := h
  refine ⟨fun c hc => ?_, fun c t e => ?_, fun c t e => ?_⟩
  · have := List.all_eq_true.1 h1 c hc
    simp at this
    have h4 := this.1
    refine ⟨?_, ?_, ?_⟩ <;> (rintro rfl; revert h4; decide)
  · subst e
    simpa using h2
  · subst e
    simpa using h3
theorem well_ne {L : LongR} (h : wellB L = true) : L.ps ≠ [] := by
  unfold wellB at h
  simp only [Bool.and_eq_true, decide_eq_true_eq] at h
  intro e
  rw [e] at h
  simp at h
theorem well_bl {L : LongR} (h : wellB L = true) : L.bl.length ≤ 20 := by
  unfold wellB blanksB at h
  simp only [Bool.and_eq_true, decide_eq_true_eq] at h
  exact h.2.1.2.2
theorem well_P {L : LongR} (h : wellB L = true) : LongP (toL L).p (toL L).ps (toL L).bl := by
  obtain ⟨ps, bl, feed⟩ := L
  have hne := well_ne h
  unfold wellB blanksB at h
  simp only [Bool.and_eq_true, decide_eq_true_eq, List.all_eq_true] at h
  obtain ⟨h1, ⟨_, h2, _⟩, h3⟩ := h
  cases ps with
  | nil => exact absurd rfl hne
  | cons p r =>
    have hb : ∀ q ∈ p :: r, BareP q ∧ (r ≠ [] → q ≠ []) := fun q hq => by
      have := h1 q hq
      unfold pieceB at this
      simp only [Bool.and_eq_true, Bool.not_eq_true'] at this
      refine ⟨bareP_of this.1, fun hr e => ?_⟩
      have h4 := this.2
      rw [e] at h4
      have h5 : 1 < (p :: r).length := by have := List.length_pos_iff.2 hr; simp; omega
      simp at h4
      exact hr h4
    refine ⟨(hb p (List.mem_cons_self ..)).1, fun q hq => ?_, fun hr => ⟨(hb p (List.mem_cons_self ..)).2 hr, ?_⟩, fun c hc => h2 c hc⟩
    · have hq' : q ∈ r := hq
      exact ⟨(hb q (List.mem_cons_of_mem _ hq')).1, (hb q (List.mem_cons_of_mem _ hq')).2 (by rintro rfl; cases hq')⟩
    · have hr' : r ≠ [] := hr
      intro e
      have e' : bl = [] := e
      rw [e'] at h3
      simp at h3
      exact hr' h3
theorem toL_text {L : LongR} (h : L.ps ≠ []) : (toL L).text = textR L.bl L.feed L.ps := by
  obtain ⟨ps, bl, feed⟩ := L
  cases ps with
  | nil => exact absurd rfl h
  | cons p r => rfl
theorem toL_says {L : LongR} (h : L.ps ≠ []) : (toL L).says = saysR L.ps := by
  obtain ⟨ps, bl, feed⟩ := L
  cases ps with
  | nil => exact absurd rfl h
  | cons p r => rfl
theorem moreText_le {bl : List UInt8} (feed : Bool) (h : bl.length ≤ 20) (ps : List (List UInt8)) : (moreText bl feed ps).length ≤ 23 * wtS ps := by
  induction ps with
  | nil => simp [moreText, wtS]
  | cons p r ih =>
    have he : (eol feed).length ≤ 2 := by cases feed <;> simp [eol]
    have e1 : moreText bl feed (p :: r) = bl ++ (p ++ eol feed) ++ moreText bl feed r := by simp [moreText]
    have e2 : wtS (p :: r) = p.length + 1 + wtS r := by simp [wtS]
    rw [e1, e2, List.length_append, List.length_append, List.length_append]
    omega
theorem textR_le {bl : List UInt8} (feed : Bool) (h : bl.length ≤ 20) (ps : List (List UInt8)) : (textR bl feed ps).length ≤ 23 * wtS ps := by
  cases ps with
  | nil => simp [textR]
  | cons p r =>
    have he : (eol feed).length ≤ 2 := by cases feed <;> simp [eol]
    have := moreText_le feed h r
    have e2 : wtS (p :: r) = p.length + 1 + wtS r := by simp [wtS]
    rw [e2]
    simp only [textR, List.length_append]
    omega
theorem saysR_le (ps : List (List UInt8)) : (saysR ps).length ≤ wtS ps := by
  have hm : ∀ r : List (List UInt8), (moreSays r).length ≤ wtS r := fun r => by
    induction r with
    | nil => simp [moreSays]
    | cons p r ih =>
      have e1 : moreSays (p :: r) = 32 :: p ++ moreSays r := by simp [moreSays]
      have e2 : wtS (p :: r) = p.length + 1 + wtS r := by simp [wtS]
      rw [e1, e2, List.length_append, List.length_cons]
      omega
  cases ps with
  | nil => simp [saysR]
  | cons p r =>
    have := hm r
    have e2 : wtS (p :: r) = p.length + 1 + wtS r := by simp [wtS]
    rw [e2]
    simp only [saysR, List.length_append]
    omega
def textsR (Ls : List LongR) : List UInt8 := Ls.flatMap fun L => textR L.bl L.feed L.ps
theorem textsR_snoc (Ls : List LongR) (k : Nat) (h : k < Ls.length) : textsR (Ls.take (k + 1)) = textsR (Ls.take k) ++ textR Ls[k].bl Ls[k].feed Ls[k].ps := by
  unfold textsR
  rw [List.take_succ_eq_append_getElem h, List.flatMap_append]
  simp
theorem textsR_le : ∀ (Ls : List LongR), Ls.all wellB = true → (textsR Ls).length ≤ 23 * (Ls.map LongR.wt).sum
  | [], _ => by simp [textsR]
  | L :: r, h => by
    simp only [List.all_cons, Bool.and_eq_true] at h
    have ih := textsR_le r h.2
    have h1 := textR_le L.feed (well_bl h.1) L.ps
    have e1 : textsR (L :: r) = textR L.bl L.feed L.ps ++ textsR r := by simp [textsR]
    rw [e1, List.length_append, List.map_cons, List.sum_cons]
    unfold LongR.wt at ih ⊢
    omega
theorem sum_take_le : ∀ (Ls : List LongR) (k : Nat), ((Ls.take k).map LongR.wt).sum ≤ (Ls.map LongR.wt).sum
  | [], k => by simp
  | L :: r, 0 => by simp
  | L :: r, k + 1 => by
    have := sum_take_le r k
    simp only [List.take_succ_cons, List.map_cons, List.sum_cons]
    omega
theorem wt_get_le : ∀ (Ls : List LongR) (L : LongR), L ∈ Ls → L.wt ≤ (Ls.map LongR.wt).sum
  | [], _, h => by cases h
  | a :: r, L, h => by
    simp only [List.map_cons, List.sum_cons]
    rcases List.mem_cons.1 h with rfl | h
    · omega
    · have := wt_get_le r L h; omega
theorem len_le_sum : ∀ (Ls : List LongR), Ls.length ≤ (Ls.map LongR.wt).sum
  | [] => by simp
  | a :: r => by
    have := len_le_sum r
    simp only [List.map_cons, List.sum_cons, List.length_cons]
    unfold LongR.wt at this ⊢
    omega
/-- The plain law. -/
theorem cont_law {Ls : List LongR} {ls : List (List UInt8)} {er : Er} (h : Ls.all wellB = true) (hs : ContSays (textsR Ls) ls er) : ls = Ls.map (fun L => saysR L.ps) := by
  rw [List.all_eq_true] at h
  have e1 : textsR Ls = (Ls.map toL).flatMap LongL.text := by
    unfold textsR
    rw [List.flatMap_map, List.flatMap_def, List.flatMap_def]
    exact congrArg List.flatten (List.map_congr_left fun L hL => (toL_text (well_ne (h L hL))).symm)
  rw [e1] at hs
  have h2 := (hs.law (fun L hL => by
    obtain ⟨L0, h0, rfl⟩ := List.mem_map.1 hL
    exact well_P (h L0 h0))).1
  rw [h2, List.map_map]
  refine List.map_congr_left fun L hL => ?_
  exact toL_says (well_ne (h L hL))
/-- The loop's relation. -/
def ContLw (Ls : List LongR) (w : World) (gk : Nat) (u3 u4 i : Value) (wr : World) : Prop :=
  ∃ (k : Nat) (T : List UInt8), k + gk = Ls.length ∧ i = .int .i64 k ∧ u3 = .string ⟨T.toArray⟩ ∧ T.length ≤ 24117248 ∧ Hid (T = textsR (Ls.take k)) ∧ OS wr w.heap.size u4 ((Ls.take k).map fun L => saysR L.ps) ∧ Hid ((Ls.take k).all wellB = true) ∧ Below w.heap.size w wr
set_option maxRecDepth 200000 in
set_option maxHeartbeats 3200000 in
theorem lawContinued (E : Nat → Addr) (gs : List Nat) (A : Option Addr) (n c : Nat) (Ls : List LongR) (hn : n = Ls.length) (hl : ∀ L ∈ Ls, L.len) (hm : Ls.length ≤ 9223372036854775807) (hbk : (Ls.map LongR.wt).sum ≤ 1048576) (w : World) (hr : LL w A Ls) (hs : Sens w E gs)
    (hg : 1 ∈ gs) (hk : 2 ∈ gs) (hf : 5 ∈ gs) :
    Calls Tryd.prog 11 #[.slice A n c] w fun e w' => e = .returned (.bool true) ∧ Below w.heap.size w w' := by
  have hz := zzFits1_any (c := c) hr hn hl hm
  subst hn
  obtain ⟨b1, hb1⟩ : ∃ b1, b1 = (decide (Ls.length ≤ 2147483647) && Ls.all fits2) := ⟨_, rfl⟩
  rw [← hb1] at hz
  have HZ := Lib.hid hz
  have hll := len_le_sum Ls
  have HR := Lib.hid (And.intro hr (And.intro hs (And.intro hl hbk)))
  have hll2 : Ls.length ≤ 1048576 := by omega
  clear hz hb1 hs hll hbk hl
  cases b1
  · clear hr
    go_enter Tryd.func11, Tryd.ntmps11
    go_wp2_with (go_at_call 32; refine HZ.out.mono ?_; rintro e w1 ⟨rfl, hb⟩; have HB := Lib.hid hb; clear hb)
    go_ret
    exact ⟨rfl, HB.out⟩
  · have hnext : ∀ (k : Nat) (wr : World), k < Ls.length → Below w.heap.size w wr → ∃ g o L, A = some ⟨g, o, none⟩ ∧ L = Ls[k]? ∧ ∃ L', L = some L' ∧ LongAt wr g (o + k * 3) L' := fun k wr h hb => by
      have hne : Ls ≠ [] := by rintro rfl; simp at h
      obtain ⟨g, o, hA, hx⟩ := hr hne
      exact ⟨g, o, _, hA, rfl, Ls[k], List.getElem?_eq_getElem h, (hx k _ (List.getElem?_eq_getElem h)).below hb⟩
    have HN := Lib.hid hnext
    clear hnext hr
    go_enter Tryd.func11, Tryd.ntmps11
    go_wp2_with (go_at_call 32; refine HZ.out.mono ?_; rintro e w1 ⟨rfl, hb⟩; have HB := Lib.hid hb; clear hb)
    go_loopg [3, 4, 6, 14] Ls.length (fun gk u3 u4 _ i wr => ContLw Ls w gk u3 u4 i wr)
    case atStart => exact ⟨0, [], by omega, rfl, rfl, by simp, Lib.hid rfl, OS.nil _ _, Lib.hid rfl, HB.out⟩
    case round =>
      obtain ⟨k, T, hkg, rfl, rfl, hTl, hT, hown, hwl, hb⟩ := hrel
      by_cases hlt : k < Ls.length
      · obtain ⟨g, o, Lo, rfl, hLo, L, rfl, hat⟩ := HN.out k wr hlt hb
        have hLk : Ls[k] = L := by have := (List.getElem?_eq_getElem hlt).symm.trans hLo.symm; simpa using this
        obtain ⟨B, c', c0, c1, c2, hsl⟩ := hat
        have hlen : L.len := HR.out.2.2.1 L (by rw [← hLk]; exact List.getElem_mem hlt)
        have hwt := wt_get_le Ls L (by rw [← hLk]; exact List.getElem_mem hlt)
        have hwel := fun w2 (h : Below wr.heap.size wr w2) => well_any L hlen B c' w2 (hsl.below h)
        obtain ⟨bw, hbw⟩ : ∃ bw, bw = wellB L := ⟨_, rfl⟩
        rw [← hbw] at hwel
        have HW := Lib.hid (And.intro hwel (And.intro hbw (And.intro hLk (And.intro hsl (And.intro hlen (And.intro hwt (And.intro hb hown)))))))
        have hM := hb.size
        clear hwel hbw hLo hLk hlen hwt hb hown hsl
        cases bw
        · go_wp2_with (go_at_call 33; refine (HW.out.1 _ ((Below.refl _ wr).alloc (Nat.le_refl _) _)).mono ?_; rintro e w3 ⟨rfl, hb3⟩; have H3 := Lib.hid hb3; clear hb3)
          go_ret
          exact ⟨rfl, (HW.out.2.2.2.2.2.2.1.alloc hM _).trans (H3.out.mono (by simp; omega))⟩
        · have hwL := HW.out.2.1.symm
          have hbl := well_bl hwL
          have ht1 := textR_le L.feed hbl L.ps
          have hs1 := saysR_le L.ps
          have hwt := HW.out.2.2.2.2.2.1
          have hbk := HR.out.2.2.2
          have hwd : L.wt = wtS L.ps + L.bl.length + 1 := rfl
          have htx := fun w2 (h : Below wr.heap.size wr w2) => longText_any L B c' w2 (HW.out.2.2.2.1.below h) (by omega) HW.out.2.2.2.2.1.2.1
          have hsx := fun w2 (h : Below wr.heap.size wr w2) => longSays_any L B c' w2 (HW.out.2.2.2.1.below h) (by omega) HW.out.2.2.2.2.1.2.1
          have hsn := textsR_snoc Ls k hlt
          have hall := all_snoc wellB Ls k hlt
          rw [hwl.out, HW.out.2.2.1, hwL] at hall
          rw [HW.out.2.2.1, ← hT.out] at hsn
          have hTn : (T ++ textR L.bl L.feed L.ps).length ≤ 24117248 := by
            rw [← hsn]
            have h1 := textsR_le (Ls.take (k + 1)) (by rw [hall]; rfl)
            have h2 := sum_take_le Ls (k + 1)
            omega
          have hsay : (Ls.take (k + 1)).map (fun L => saysR L.ps) = (Ls.take k).map (fun L => saysR L.ps) ++ [saysR L.ps] := by
            rw [List.take_succ_eq_append_getElem hlt, List.map_append, HW.out.2.2.1]; rfl
          obtain ⟨X, hX⟩ : ∃ X, X = textR L.bl L.feed L.ps := ⟨_, rfl⟩
          obtain ⟨Y, hY⟩ : ∃ Y, Y = saysR L.ps := ⟨_, rfl⟩
          rw [← hX] at hsn hTn htx
          rw [← hY] at hsay hsx
          obtain ⟨acc, hacc⟩ : ∃ acc, acc = (Ls.take k).map (fun L => saysR L.ps) := ⟨_, rfl⟩
          have hown := HW.out.2.2.2.2.2.2.2
          rw [← hacc] at hsay hown
          obtain ⟨A0, c0', hu0, _, _, _⟩ := hown.form
          subst hu0
          have hal : acc.length = k := by rw [hacc, List.length_map, List.length_take]; omega
          have HX := Lib.hid (And.intro htx (And.intro hsx (And.intro hsn (And.intro hall (And.intro hsay hown)))))
          have hal2 : acc.length ≤ 1048576 := by omega
          have HAL := Lib.hid hal
          have hTX : T.length + X.length ≤ 24117248 := by rw [List.length_append] at hTn; omega
          clear hwL hbl ht1 hs1 hwt hbk hwd htx hsx hsn hall hsay hX hY hacc hown hTn hal
          go_wp2_with (first
            | (go_at_call 33; refine (HW.out.1 _ ((Below.refl _ wr).alloc (Nat.le_refl _) _)).mono ?_; rintro e w3 ⟨rfl, hb3⟩; have hb03 : Below wr.heap.size wr w3 := ((Below.refl _ wr).alloc (Nat.le_refl _) _).trans (hb3.mono (by simp)); have hB3 := (Blk.new wr #[.slice B L.ps.length c', .string ⟨L.bl.toArray⟩, .bool L.feed] 51).same (hb3.block wr.heap.size (by simp)); have p0 : w3.cell? ⟨wr.heap.size, 0, none⟩ = some (.slice B L.ps.length c') := hB3.cell 0; have p1 : w3.cell? ⟨wr.heap.size, 1, none⟩ = some (.string ⟨L.bl.toArray⟩) := hB3.cell 1; have p2 : w3.cell? ⟨wr.heap.size, 2, none⟩ = some (.bool L.feed) := hB3.cell 2; have H3 := Lib.hid (And.intro hb03 hB3); clear hb3 hb03 hB3)
            | (go_at_call 34; refine (HX.out.1 _ H3.out.1).mono ?_; rintro e w4 ⟨rfl, hb4⟩; have hB4 := H3.out.2.same (hb4.block wr.heap.size H3.out.2.lt); have p0 : w4.cell? ⟨wr.heap.size, 0, none⟩ = some (.slice B L.ps.length c') := hB4.cell 0; have p1 : w4.cell? ⟨wr.heap.size, 1, none⟩ = some (.string ⟨L.bl.toArray⟩) := hB4.cell 1; have p2 : w4.cell? ⟨wr.heap.size, 2, none⟩ = some (.bool L.feed) := hB4.cell 2; have H4 := Lib.hid (H3.out.1.trans (hb4.mono H3.out.1.size)); clear hb4 hB4)
            | (go_at_call 35; refine (HX.out.2.1 _ H4.out).mono ?_; rintro e w5 ⟨rfl, hb5⟩; have H5 := Lib.hid (H4.out.trans (hb5.mono H4.out.size)); clear hb5)
            | ((with_reducible refine at_appendS ?_); refine wpList_append_S rfl (.tmp 25) (.tmp 28) 28 Tryd.underlying28 rfl w.heap.size (.slice A0 acc.length c0') acc rfl ((HX.out.2.2.2.2.2.below H5.out).alloc _) (some ⟨w5.heap.size, 0, none⟩) [Y] 1 1 rfl rfl (SL.one' _ _ _ _ rfl) (by simp; omega) (by simp; have := H5.out.size; omega) (acc.length + 1) rfl (acc ++ [Y]) rfl ?_; intro A3 c3 w6 hap; have HP := Lib.hid hap; clear hap))
          go_roundg (gk - 1)
          case measure => omega
          case rel =>
            refine ⟨k + 1, T ++ X, by omega, by go_num, rfl, by rw [List.length_append]; exact hTX, Lib.hid HX.out.2.2.1.symm, ?_, Lib.hid (by rw [HX.out.2.2.2.1]; rfl), ?_⟩
            · rw [HX.out.2.2.2.2.1]
              exact HP.out.own
            · have hb5 := HW.out.2.2.2.2.2.2.1.trans (H5.out.mono hM)
              exact hb5.trans (((Below.refl _ w5).alloc hb5.size _).trans (HP.out.below ((HX.out.2.2.2.2.2.below H5.out).alloc _) (by simp; have := hb5.size; omega)))
      · have hke : k = Ls.length := by omega
        have hTe := hT.out
        rw [List.take_of_length_le (by omega)] at hTe
        have hwe := hwl.out
        rw [List.take_of_length_le (by omega)] at hwe
        rw [List.take_of_length_le (by omega)] at hown
        have hM := hb.size
        obtain ⟨acc, hacc⟩ : ∃ acc, acc = Ls.map (fun L => saysR L.ps) := ⟨_, rfl⟩
        rw [← hacc] at hown
        obtain ⟨A0, c0', hu0, _, _, _⟩ := hown.form
        subst hu0
        have hal : acc.length ≤ 1048576 := by rw [hacc, List.length_map]; exact hll2
        have hlaw : ∀ ls er, ContSays T ls er → ls = acc := fun ls er h => by rw [hacc]; exact cont_law hwe (hTe ▸ h)
        have HX := Lib.hid (And.intro hlaw (And.intro hown hb))
        obtain ⟨A9, c9, hf9, hle9, hle9', hsl9⟩ := hown.form
        injection hf9 with e1 _ e3
        subst e1; subst e3
        have HS9 := Lib.hid hsl9
        obtain ⟨tl, htl⟩ : ∃ tl, tl = T.length := ⟨_, rfl⟩
        have HTL := Lib.hid htl
        clear hTe hwe hlaw hown hb hacc hle9 hle9' hsl9 htl
        go_wp2_with (first
          | (with_reducible refine at_toBytes ?_; refine wpList_toRawN rfl (.tmp 32) rfl T rfl (by omega) tl HTL.out ?_; intro c1 w2 hfr hraw; have HR1 := Lib.hid (And.intro hfr hraw); clear hfr hraw)
          | (go_at_call 36; refine (implContinued_any (c := c1) (HR.out.2.1.below (HX.out.2.2.trans (HR1.out.1.below.mono hM))) hg hk hf HTL.out HR1.out.2.rb (by omega)).mono ?_; rintro e w3 ⟨ls, A3, c3, rfl, hsay, hsl, hlen, hb3⟩; have H3 := Lib.hid (And.intro hsl hb3); obtain rfl := HX.out.1 _ _ hsay; clear hsay hsl hb3)
          | (go_at_call 29; refine (equalS_same rfl rfl (by omega) H3.out.1 ((HS9.out.below HR1.out.1.below).below H3.out.2)).mono ?_; rintro e w5 ⟨rfl, ho5⟩; have H5 := Lib.hid ho5; clear ho5))
        go_ret
        exact ⟨rfl, (HX.out.2.2.trans (HR1.out.1.below.mono hM)).trans ((H3.out.2.mono (by have := HR1.out.1.below.size; omega)).trans (H5.out.below _))⟩
end Go.Proofs.YteiiocibldpioaaDoor
