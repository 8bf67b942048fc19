/- The walk of the reference's DotText, of longer texts. -/
import Derived.Test.YteiiocibldpioaaDoorSpecM
namespace Go.Proofs.YteiiocibldpioaaDoor
open Go.RowKit

theorem dtx_take_le (ls : List (List UInt8)) (k : Nat) : (dtx (ls.take k)).length ≤ (dtx ls).length := by
  conv => rhs; rw [← List.take_append_drop k ls]
  unfold dtx
  rw [List.flatMap_append, List.length_append]
  omega
theorem esc_ge (l : List UInt8) : l.length ≤ (esc l).length := by unfold esc; split <;> simp
theorem dtx_mem_le (ls : List (List UInt8)) (l : List UInt8) (h : l ∈ ls) : l.length ≤ (dtx ls).length := by
  induction ls with
  | nil => cases h
  | cons x t ih =>
    have e : dtx (x :: t) = esc x ++ [13, 10] ++ dtx t := by simp [dtx]
    rw [e, List.length_append, List.length_append]
    rcases List.mem_cons.1 h with rfl | h
    · have := esc_ge l; omega
    · have := ih h; omega
set_option maxRecDepth 200000 in
set_option maxHeartbeats 1000000 in
theorem specDotTextB_any {w : World} {A : Option Addr} {n c : Nat} {ls : List (List UInt8)} (hr : SL w A ls) (hn : n = ls.length) (hl : (dtx ls).length ≤ 17592186044416) (hm : ls.length ≤ 17592186044416) :
    Calls Tryd.prog 19 #[.slice A n c] w fun e w' => (∃ A' c', e = .returned (.slice A' (dotText ls).length c') ∧ OB w' w.heap.size (.slice A' (dotText ls).length c') (dotText ls) ∧ RB w' A' (dotText ls)) ∧ Below w.heap.size w w' := by
  subst hn
  have HX := Lib.hid (And.intro hr hl)
  clear hr hl
  go_enter Tryd.func19, Tryd.ntmps19
  go_wp2
  go_loopg [3, 5, 8] (ls.length) (fun gk u _ i wr => ∃ k : Nat, k + gk = ls.length ∧ i = .int .i64 k ∧ OB wr w.heap.size u (dtx (ls.take k)) ∧ Below w.heap.size w wr)
  case atStart => exact ⟨0, by omega, rfl, OB.nil _ _, Below.refl _ _⟩
  case round =>
    obtain ⟨k, hk, rfl, hown, hb⟩ := hrel
    obtain ⟨A0, c0, hu0, _, _, _⟩ := hown.form
    subst hu0
    have hdl : (dtx (ls.take k)).length ≤ 17592186044416 := Nat.le_trans (dtx_take_le ls k) HX.out.2
    have hsz : w.heap.size ≤ wr.heap.size := hb.size
    by_cases hlt : k < ls.length
    · obtain ⟨s, hs⟩ : ∃ s, s = ls[k] := ⟨_, rfl⟩
      have hne : ls ≠ [] := by rintro rfl; simp at hlt
      obtain ⟨g, o, rfl, hx⟩ := (HX.out.1.below hb) hne
      have hcell : wr.cell? ⟨g, o + k, none⟩ = some (.string ⟨s.toArray⟩) := by rw [hs]; exact hx k ls[k] (List.getElem?_eq_getElem hlt)
      have hsl : s.length ≤ 17592186044416 := by rw [hs]; exact Nat.le_trans (dtx_mem_le ls _ (List.getElem_mem hlt)) HX.out.2
      have hsn := dtx_snoc ls k hlt
      rw [← hs] at hsn
      have HS := Lib.hid (And.intro hsn (And.intro hown hb))
      generalize dtx (ls.take k) = D at *
      clear hs hsn hx hown hb hne
      rcases s with _ | ⟨x, tl⟩
      · go_wp2_with ((with_reducible refine at_appendBS ?_); refine wpList_append_BS rfl (.tmp 22) (.tmp 24) rfl w.heap.size (.slice A0 D.length c0) D rfl HS.out.2.1 [13, 10] rfl (by simp; omega) hsz _ rfl ?_; intro A3 c3 w3 ho3 _ _ _ hb3; have H3 := Lib.hid (And.intro ho3 hb3); clear ho3 hb3)
        go_roundg (gk - 1)
        case measure => omega
        case rel => exact ⟨k + 1, by omega, by go_num, by rw [HS.out.1]; exact H3.out.1, HS.out.2.2.trans H3.out.2⟩
      · by_cases hx : x = 46
        · subst hx
          have he : esc (46 :: tl) = 46 :: 46 :: tl := by simp [esc]
          rw [he] at HS
          have h46 : RB (wr.alloc (.cells #[.int .u8 46] 5)) (some ⟨wr.heap.size, 0, none⟩) [46] := RB.one' wr 46 5 _ rfl
          have HB := Lib.hid h46
          have hsl2 : tl.length + 1 ≤ 17592186044416 := hsl
          clear he h46 hsl
          go_wp2_with (first
            | ((with_reducible refine at_appendB ?_); refine wpList_append_B rfl (.tmp 19) (.tmp 20) rfl w.heap.size (.slice A0 D.length c0) D rfl (HS.out.2.1.alloc _) (some ⟨wr.heap.size, 0, none⟩) [46] 1 1 rfl rfl HB.out (by simp; omega) (by simp; omega) (D.length + 1) rfl (D ++ [46]) rfl ?_; intro A2 c2 w2 hap; have HP := Lib.hid hap; clear hap)
            | ((with_reducible refine at_appendBS ?_); refine wpList_append_BS rfl (.tmp 22) (.tmp 24) rfl w.heap.size (.slice A2 (D.length + 1) c2) (D ++ [46]) rfl HP.out.own (46 :: (tl ++ [13, 10])) rfl (by simp; omega) (by have := HP.out.grown.size; simp at this; omega) (D.length + (tl.length + 4)) (by simp; omega) ?_; intro A3 c3 w3 ho3 _ _ _ hb3; have H3 := Lib.hid (And.intro ho3 hb3); clear ho3 hb3))
          go_roundg (gk - 1)
          case measure => omega
          case rel =>
            refine ⟨k + 1, by omega, by go_num, ?_, (HS.out.2.2.trans ((Below.refl _ _).alloc hsz _)).trans ((((Below.refl _ _).grown HP.out.grown (by simp; omega) (fun k hk => (HS.out.2.1.lt k hk).1))).trans H3.out.2)⟩
            have h3 := H3.out.1
            rw [HS.out.1]
            have e : D ++ (46 :: 46 :: tl ++ [13, 10]) = D ++ [46] ++ 46 :: (tl ++ [13, 10]) := by simp
            rw [e]
            exact h3
        · have he : esc (x :: tl) = x :: tl := by simp [esc, hx]
          rw [he] at HS
          have hxi : ((x.toNat : Int) == 46) = false := by rw [beq_eq_false_iff_ne]; exact fun e => hx ((byte_eq_iff x 46).1 e)
          have hsl2 : tl.length + 1 ≤ 17592186044416 := hsl
          clear he hsl
          go_wp2_with ((with_reducible refine at_appendBS ?_); refine wpList_append_BS rfl (.tmp 22) (.tmp 24) rfl w.heap.size (.slice A0 D.length c0) D rfl HS.out.2.1 (x :: (tl ++ [13, 10])) rfl (by simp; omega) hsz (D.length + (tl.length + 3)) (by simp) ?_; intro A3 c3 w3 ho3 _ _ _ hb3; have H3 := Lib.hid (And.intro ho3 hb3); clear ho3 hb3)
          go_roundg (gk - 1)
          case measure => omega
          case rel => exact ⟨k + 1, by omega, by go_num, by rw [HS.out.1]; exact H3.out.1, HS.out.2.2.trans H3.out.2⟩
    · have hk2 : ls.take k = ls := List.take_of_length_le (by omega)
      rw [hk2] at hown hdl ⊢
      have HS := Lib.hid (And.intro hown hb)
      have hdt : dotText ls = dtx ls ++ [46, 13, 10] := rfl
      have hdl2 : (dotText ls).length = (dtx ls).length + 3 := by rw [hdt, List.length_append]; rfl
      have HT := Lib.hid (And.intro hdt hdl2)
      clear hdt hdl2 hown hb hk2
      generalize dtx ls = D at *
      go_wp2_with ((with_reducible refine at_appendBS ?_); refine wpList_append_BS rfl (.tmp 27) (.const (.string ⟨#[46, 13, 10]⟩)) rfl w.heap.size (.slice A0 D.length c0) D rfl HS.out.1 [46, 13, 10] rfl (by simp; omega) hsz _ rfl ?_; intro A3 c3 w3 ho3 _ _ hr3 hb3; have H3 := Lib.hid (And.intro ho3 (And.intro hr3 hb3)); clear ho3 hr3 hb3)
      go_ret
      refine ⟨⟨A3, c3, ?_, ?_, ?_⟩, HS.out.2.trans H3.out.2.2⟩
      · rw [HT.out.2]; rfl
      · rw [HT.out.2, HT.out.1]; exact H3.out.1
      · rw [HT.out.1]; exact H3.out.2.1
end Go.Proofs.YteiiocibldpioaaDoor
