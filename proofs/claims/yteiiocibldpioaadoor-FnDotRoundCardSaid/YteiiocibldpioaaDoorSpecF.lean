/- The walks of the reference's Feeds, Join, Has. -/
import Derived.Test.YteiiocibldpioaaDoorSpecM
import Derived.Test.YteiiocibldpioaaDoorOpenR
namespace Go.Proofs.YteiiocibldpioaaDoor
open Go.RowKit

theorem feeds_snoc (ls : List (List UInt8)) (k : Nat) (h : k < ls.length) : feeds (ls.take (k + 1)) = feeds (ls.take k) ++ (ls[k] ++ [10]) := by
  unfold feeds
  rw [List.take_succ_eq_append_getElem h, List.flatMap_append]
  simp
theorem feeds_take_le (ls : List (List UInt8)) (k : Nat) : (feeds (ls.take k)).length ≤ (feeds ls).length := by
  conv => rhs; rw [← List.take_append_drop k ls]
  unfold feeds
  rw [List.flatMap_append, List.length_append]
  omega
theorem OB.shape {w : World} {base n c : Nat} {A : Option Addr} {l : List UInt8} (h : OB w base (.slice A n c) l) : A = none ∨ ∃ g o, A = some ⟨g, o, none⟩ := by
  obtain ⟨_, h2⟩ := h
  rcases h2 with ⟨h, _⟩ | ⟨g, cap, cur, h, _⟩
  · injection h with h; exact .inl h
  · injection h with h; exact .inr ⟨g, 0, h⟩
set_option maxRecDepth 200000 in
set_option maxHeartbeats 1000000 in
theorem specFeeds_any {w : World} {A : Option Addr} {n c : Nat} {ls : List (List UInt8)} (hr : SL w A ls) (hn : n = ls.length) (ht : (feeds ls).length ≤ 17592186044416) (hm : ls.length ≤ 17592186044416) :
    Calls Tryd.prog 24 #[.slice A n c] w fun e w' => (∃ A' c', e = .returned (.slice A' (feeds ls).length c') ∧ OB w' w.heap.size (.slice A' (feeds ls).length c') (feeds ls) ∧ (feeds ls).length ≤ c' ∧ c' ≤ 9223372036854775807 ∧ RB w' A' (feeds ls)) ∧ Below w.heap.size w w' := by
  subst hn
  have HX := Lib.hid (And.intro hr ht)
  clear hr ht
  go_enter Tryd.func24, Tryd.ntmps24
  go_wp2
  go_loopg [3, 5, 8] (ls.length) (fun gk u _ i wr => ∃ k : Nat, k + gk = ls.length ∧ i = .int .i64 k ∧ OB wr w.heap.size u (feeds (ls.take k)) ∧ Below w.heap.size w wr)
  case atStart => exact ⟨0, by omega, rfl, OB.nil _ _, Below.refl _ _⟩
  case round =>
    obtain ⟨k, hk, rfl, hown, hb⟩ := hrel
    obtain ⟨A0, c0, hu0, _, _, _⟩ := hown.form
    subst hu0
    have hsz : w.heap.size ≤ wr.heap.size := hb.size
    by_cases hlt : k < ls.length
    · obtain ⟨s, hs⟩ : ∃ s, s = ls[k] := ⟨_, rfl⟩
      have hne : ls ≠ [] := by rintro rfl; simp at hlt
      obtain ⟨g, o, rfl, hx⟩ := (HX.out.1.below hb) hne
      have hcell : wr.cell? ⟨g, o + k, none⟩ = some (.string ⟨s.toArray⟩) := by rw [hs]; exact hx k ls[k] (List.getElem?_eq_getElem hlt)
      have hsn := feeds_snoc ls k hlt
      rw [← hs] at hsn
      have hle := feeds_take_le ls (k + 1)
      rw [hsn] at hle
      have hdl : (feeds (ls.take k)).length + (s.length + 1) ≤ 17592186044416 := by have := HX.out.2; rw [List.length_append, List.length_append] at hle; simp at hle; omega
      have HS := Lib.hid (And.intro hsn (And.intro hown hb))
      generalize feeds (ls.take k) = D at *
      clear hs hsn hx hown hb hle hne
      go_wp2_with ((with_reducible refine at_appendBS ?_); refine wpList_append_BS rfl (.tmp 12) (.tmp 14) rfl w.heap.size (.slice A0 D.length c0) D rfl HS.out.2.1 (s ++ [10]) rfl (by simp; omega) hsz (D.length + (s.length + 1)) (by simp) ?_; intro A3 c3 w3 ho3 _ _ _ hb3; have H3 := Lib.hid (And.intro ho3 hb3); clear ho3 hb3)
      go_roundg (gk - 1)
      case measure => omega
      case rel => exact ⟨k + 1, by omega, by go_num, by rw [HS.out.1]; exact H3.out.1, HS.out.2.2.trans H3.out.2⟩
    · have hk2 : ls.take k = ls := List.take_of_length_le (by omega)
      rw [hk2] at hown
      obtain ⟨A4, c4, h4, hc4, hc4', hrb⟩ := hown.form
      injection h4 with h4 h5 h6
      subst h4
      subst h6
      have HE := Lib.hid (And.intro hc4 (And.intro hc4' (And.intro hrb (And.intro hb (And.intro hk2 hown)))))
      clear hc4 hc4' hrb hb hown hk2 h5
      go_wp2
      go_ret
      obtain ⟨hc4, hc4', hrb, hb, hk2, hown⟩ := HE.out
      exact ⟨⟨A0, c0, by rw [hk2]; rfl, hown, hc4, hc4', hrb⟩, hb⟩
theorem flat_snoc (ds : List (List UInt8)) (k : Nat) (h : k < ds.length) : (ds.take (k + 1)).flatten = (ds.take k).flatten ++ ds[k] := by
  rw [List.take_succ_eq_append_getElem h, List.flatten_append]
  simp
theorem flat_take_le (ds : List (List UInt8)) (k : Nat) : (ds.take k).flatten.length ≤ ds.flatten.length := by
  conv => rhs; rw [← List.take_append_drop k ds]
  rw [List.flatten_append, List.length_append]
  omega
set_option maxRecDepth 200000 in
set_option maxHeartbeats 1000000 in
theorem specJoin_any {w : World} {A : Option Addr} {n c : Nat} {ds : List (List UInt8)} (hr : BL w A ds) (hn : n = ds.length) (ht : ds.flatten.length ≤ 17592186044416) (hm : ds.length ≤ 17592186044416) :
    Calls Tryd.prog 17 #[.slice A n c] w fun e w' => (∃ A' c', e = .returned (.slice A' ds.flatten.length c') ∧ OB w' w.heap.size (.slice A' ds.flatten.length c') ds.flatten ∧ ds.flatten.length ≤ c' ∧ c' ≤ 9223372036854775807 ∧ RB w' A' ds.flatten) ∧ Below w.heap.size w w' := by
  subst hn
  have HX := Lib.hid (And.intro hr ht)
  clear hr ht
  go_enter Tryd.func17, Tryd.ntmps17
  go_wp2
  go_loopg [3, 5, 8] (ds.length) (fun gk u _ i wr => ∃ k : Nat, k + gk = ds.length ∧ i = .int .i64 k ∧ OB wr w.heap.size u (ds.take k).flatten ∧ Below w.heap.size w wr)
  case atStart => exact ⟨0, by omega, rfl, OB.nil _ _, Below.refl _ _⟩
  case round =>
    obtain ⟨k, hk, rfl, hown, hb⟩ := hrel
    obtain ⟨A0, c0, hu0, _, _, _⟩ := hown.form
    subst hu0
    have hsz : w.heap.size ≤ wr.heap.size := hb.size
    by_cases hlt : k < ds.length
    · obtain ⟨s, hs⟩ : ∃ s, s = ds[k] := ⟨_, rfl⟩
      obtain ⟨g, o, B, cb, rfl, hcell, _, _, hrb⟩ := (HX.out.1.below hb).at_ (i := k) (d := s) (by rw [hs]; exact List.getElem?_eq_getElem hlt)
      have hsn := flat_snoc ds k hlt
      rw [← hs] at hsn
      have hle := flat_take_le ds (k + 1)
      rw [hsn] at hle
      have hdl : (ds.take k).flatten.length + s.length ≤ 17592186044416 := by have := HX.out.2; rw [List.length_append] at hle; omega
      have HS := Lib.hid (And.intro hsn (And.intro hown (And.intro hb hrb)))
      generalize (ds.take k).flatten = D at *
      clear hs hsn hown hb hle hrb
      go_wp2_with ((with_reducible refine at_appendB ?_); refine wpList_append_B rfl (.tmp 12) (.tmp 13) rfl w.heap.size (.slice A0 D.length c0) D rfl HS.out.2.1 B s s.length cb rfl rfl HS.out.2.2.2 (by omega) hsz (D.length + s.length) rfl (D ++ s) rfl ?_; intro A3 c3 w3 hap; have HP := Lib.hid (And.intro hap.own ((Below.refl _ _).grown hap.grown hsz (fun k hk => (HS.out.2.1.lt k hk).1))); clear hap)
      go_roundg (gk - 1)
      case measure => omega
      case rel => exact ⟨k + 1, by omega, by go_num, by rw [HS.out.1]; exact HP.out.1, HS.out.2.2.1.trans HP.out.2⟩
    · have hk2 : ds.take k = ds := List.take_of_length_le (by omega)
      rw [hk2] at hown
      obtain ⟨A4, c4, h4, hc4, hc4', hrb⟩ := hown.form
      injection h4 with h4 h5 h6
      subst h4
      subst h6
      have HE := Lib.hid (And.intro hc4 (And.intro hc4' (And.intro hrb (And.intro hb (And.intro hk2 hown)))))
      clear hc4 hc4' hrb hb hown hk2 h5
      go_wp2
      go_ret
      obtain ⟨hc4, hc4', hrb, hb, hk2, hown⟩ := HE.out
      exact ⟨⟨A0, c0, by rw [hk2]; rfl, hown, hc4, hc4', hrb⟩, hb⟩
end Go.Proofs.YteiiocibldpioaaDoor
