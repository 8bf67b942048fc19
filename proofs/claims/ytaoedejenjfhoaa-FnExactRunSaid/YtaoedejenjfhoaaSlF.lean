/- slices.Clone and slices.Equal of strings, slices.EqualFunc over them, and the bounds of steps. -/
import Derived.Test.YtaoedejenjfhoaaRunI
import Derived.Deep.DeepCutAuto
import Derived.Lib.SliceRun
import Derived.BigQuiet
namespace Go.Proofs.Ytaoedejenjfhoaa
open Go.RowKit Go.Maps

set_option maxRecDepth 200000 in
/-- A copy, the call's own. -/
theorem clone_any {w : World} {A : Option Addr} {n c : Nat} {l : List (List UInt8)} (hr : SL w A l) (hn : n = l.length) (hl : l.length ≤ 3000000000) :
    Calls Try.prog 36 #[.slice A n c] w fun e w' => (∃ A' c', e = .returned (.slice A' l.length c') ∧ OS w' w.heap.size (.slice A' l.length c') l) ∧ Below w.heap.size w w' := by
  subst hn
  have qT : ∀ (w : World) (a : Option Addr) (n c : Nat), (binOp .eql 31 (.slice a n c) (.slice none 0 0)).run Try.prog w = .ok (.bool a.isNone) w := fun w a n c => Lib.run_eql_slice_nil w _ _ a n c 0 0 Try.underlying31
  rcases A with _ | a
  · have he : l = [] := by
      rcases l with _ | ⟨s, t⟩
      · rfl
      · obtain ⟨g, o, h, _⟩ := hr (by simp); cases h
    subst he
    clear hr
    go_enter Try.func36, Try.ntmps36
    go_wp2
    go_ret
    exact ⟨⟨none, 0, rfl, OS.nil _ _⟩, Below.refl _ _⟩
  · have HO := Lib.hid (OS.litE w w.heap.size (Nat.le_refl _))
    have HB := Lib.hid ((Below.refl w.heap.size w).alloc (Nat.le_refl _) (.cells #[] 9))
    have HR := Lib.hid hr
    clear hr
    go_enter Try.func36, Try.ntmps36
    go_wp2_with ((with_reducible refine at_appendS ?_); refine wpList_append_S rfl _ _ _ Try.underlying31 rfl w.heap.size (.slice (some ⟨w.heap.size, 0, none⟩) 0 0) [] rfl HO.out (some a) l _ c rfl rfl (HR.out.below HB.out) (by simp; omega) HB.out.size _ (Nat.zero_add _).symm _ rfl ?_; intro A3 c3 w3 hap3; have H3 := Lib.hid hap3; clear hap3)
    go_ret
    exact ⟨⟨A3, c3, rfl, H3.out.own⟩, HB.out.trans (H3.out.below HO.out HB.out.size)⟩
set_option maxRecDepth 200000 in
theorem equalStr_same {w : World} {A B : Option Addr} {n m c d : Nat} {ls : List (List UInt8)} (hn : n = ls.length) (hm : m = ls.length) (hl : ls.length ≤ 3000000000) (ha : SL w A ls) (hb : SL w B ls) :
    Calls Try.prog 21 #[.slice A n c, .slice B m d] w fun e w' => e = .returned (.bool true) ∧ Below w.heap.size w w' := by
  subst hn
  subst hm
  have HR := Lib.hid (And.intro ha hb)
  clear ha hb
  go_enter Try.func21, Try.ntmps21
  go_wp2
  go_loopg [5, 13] (ls.length) (fun gk _ i wr => ∃ k : Nat, k + gk = ls.length ∧ i = .int .i64 k ∧ Hid (Below w.heap.size w wr))
  case atStart => exact ⟨0, by omega, rfl, Lib.hid (Below.refl _ _)⟩
  case round =>
    obtain ⟨k, hk, rfl, hbel⟩ := hrel
    by_cases hlt : k < ls.length
    · have hne : ls ≠ [] := by rintro rfl; simp at hlt
      obtain ⟨g, o, rfl, hx⟩ := HR.out.1 hne
      obtain ⟨g2, o2, rfl, hx2⟩ := HR.out.2 hne
      have d0 := hx k ls[k] (List.getElem?_eq_getElem hlt)
      have d1 := hx2 k ls[k] (List.getElem?_eq_getElem hlt)
      have c0 := (hbel.out.cell (p := ⟨g, o + k, none⟩) (World.block_lt_of_cell? _ _ d0)).trans d0
      have c1 := (hbel.out.cell (p := ⟨g2, o2 + k, none⟩) (World.block_lt_of_cell? _ _ d1)).trans d1
      clear d0 d1 hx hx2 hne
      generalize ls[k] = s at c0 c1
      go_wp2_with (fail)
      go_quiet (fail)
      go_wp2
      go_roundg (gk - 1)
      case measure => omega
      case rel => exact ⟨k + 1, by omega, by go_num, Lib.hid (hbel.out.trans ⟨rfl, rfl, rfl, Nat.le_refl _, fun _ _ => rfl⟩)⟩
    · go_wp2
      go_ret
      exact ⟨rfl, hbel.out⟩
set_option maxRecDepth 200000 in
theorem equalRows_same {w : World} {A B : Option Addr} {n m c d : Nat} {vs us : List Value} {ls : List (List (List UInt8))} {P Q : Nat → Prop} (hn : n = ls.length) (hm : m = ls.length) (ha : VR w A vs) (hb : VR w B us) (hvs : SVals w P vs ls) (hus : SVals w Q us ls)
    (hl : ls.length ≤ 3000000000) (hl2 : ∀ l ∈ ls, l.length ≤ 3000000000) :
    Calls Try.prog 18 #[.slice A n c, .slice B m d, .func (.func 21) #[] #[]] w fun e w' => e = .returned (.bool true) ∧ Below w.heap.size w w' := by
  subst hn
  subst hm
  have HR := Lib.hid (And.intro ha (And.intro hb (And.intro hvs (And.intro hus hl2))))
  clear ha hb hvs hus hl2
  go_enter Try.func18, Try.ntmps18
  go_wp2
  go_loopg [7, 8, 9, 17] (ls.length) (fun gk _ _ _ i wr => ∃ k : Nat, k + gk = ls.length ∧ i = .int .i64 k ∧ Hid (Below w.heap.size w wr))
  case atStart => exact ⟨0, by omega, rfl, Lib.hid (Below.refl _ _)⟩
  case round =>
    obtain ⟨k, hk, rfl, hbel⟩ := hrel
    by_cases hlt : k < ls.length
    · have hv1 : k < vs.length := by rw [HR.out.2.2.1.1]; exact hlt
      have hu1 : k < us.length := by rw [HR.out.2.2.2.1.1]; exact hlt
      obtain ⟨g, o, rfl, hx⟩ := HR.out.1 (by rintro rfl; simp at hv1)
      obtain ⟨g2, o2, rfl, hx2⟩ := HR.out.2.1 (by rintro rfl; simp at hu1)
      have d0 := hx k vs[k] (List.getElem?_eq_getElem hv1)
      have d1 := hx2 k us[k] (List.getElem?_eq_getElem hu1)
      obtain ⟨A1, c1', e1, _, _, hs1, _⟩ := HR.out.2.2.1.2 k _ _ (List.getElem?_eq_getElem hv1) (List.getElem?_eq_getElem hlt)
      obtain ⟨A2, c2', e2, _, _, hs2, _⟩ := HR.out.2.2.2.1.2 k _ _ (List.getElem?_eq_getElem hu1) (List.getElem?_eq_getElem hlt)
      have hll := HR.out.2.2.2.2 ls[k] (List.getElem_mem hlt)
      rw [e1] at d0
      rw [e2] at d1
      have c0 := (hbel.out.cell (p := ⟨g, o + k, none⟩) (World.block_lt_of_cell? _ _ d0)).trans d0
      have c1 := (hbel.out.cell (p := ⟨g2, o2 + k, none⟩) (World.block_lt_of_cell? _ _ d1)).trans d1
      have HS := Lib.hid (And.intro (hs1.below hbel.out) (And.intro (hs2.below hbel.out) hll))
      clear d0 d1 hx hx2 hv1 hu1 e1 e2 hs1 hs2 hll
      generalize ls[k] = l at c0 c1 HS
      go_wp2_with (go_at_call 21; refine (equalStr_same rfl rfl HS.out.2.2 HS.out.1 HS.out.2.1).mono ?_; rintro e w2 ⟨rfl, hb2⟩; have H2 := Lib.hid hb2; clear hb2)
      go_roundg (gk - 1)
      case measure => omega
      case rel => exact ⟨k + 1, by omega, by go_num, Lib.hid (hbel.out.trans (H2.out.mono hbel.out.size))⟩
    · go_wp2
      go_ret
      exact ⟨rfl, hbel.out⟩
end Go.Proofs.Ytaoedejenjfhoaa
