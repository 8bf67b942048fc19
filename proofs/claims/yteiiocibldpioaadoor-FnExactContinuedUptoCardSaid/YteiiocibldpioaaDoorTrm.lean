/- The walk of textproto's trim. -/
import Derived.Test.YteiiocibldpioaaDoorRdK
namespace Go.Proofs.YteiiocibldpioaaDoor
open Go.RowKit

/-- Without spaces and tabs at both ends. -/
def trimB (l : List UInt8) : List UInt8 := (((l.dropWhile blank).reverse).dropWhile blank).reverse
theorem trimB_eq {l : List UInt8} {i j : Nat} (hi : ∀ c ∈ l.take i, blank c = true) (h1 : ∀ c, l[i]? = some c → blank c = false) (hj : ∀ c ∈ (l.drop i).drop j, blank c = true) (hjl : j ≤ (l.drop i).length) (h2 : ∀ c, 0 < j → (l.drop i)[j - 1]? = some c → blank c = false) : trimB l = (l.drop i).take j := by
  have e1 : l.dropWhile blank = l.drop i := by
    have := (takeWhile_blank (pre := l.take i) (S1 := l.drop i) hi (fun c t h => h1 c (by
      have h3 : (l.drop i)[0]? = some c := by rw [h]; rfl
      rw [List.getElem?_drop] at h3
      simpa using h3))).2
    rwa [List.take_append_drop] at this
  unfold trimB
  rw [e1]
  have e2 : (l.drop i).reverse = ((l.drop i).drop j).reverse ++ ((l.drop i).take j).reverse := by rw [← List.reverse_append, List.take_append_drop]
  have e3 := (takeWhile_blank (pre := ((l.drop i).drop j).reverse) (S1 := ((l.drop i).take j).reverse) (fun c hc => hj c (List.mem_reverse.1 hc)) (fun c t h => by
    have h3 : ((l.drop i).take j).getLast? = some c := by
      rw [← List.head?_reverse, h]; rfl
    have hlen : ((l.drop i).take j).length = j := by rw [List.length_take]; omega
    have hj0 : 0 < j := by
      rcases Nat.eq_zero_or_pos j with h0 | h0
      · subst h0; simp at h3
      · exact h0
    rw [List.getLast?_eq_getElem?, hlen, List.getElem?_take, if_pos (by omega)] at h3
    exact h2 c hj0 h3)).2
  rw [e2, e3, List.reverse_reverse]
/-- What trim returns. -/
def TrimEnd (w : World) (A : Option Addr) (l : List UInt8) (e : Ending) : Prop :=
  ∃ (A' : Option Addr) (c' : Nat), e = .returned (.slice A' (trimB l).length c') ∧ (trimB l).length ≤ c' ∧ c' ≤ 9223372036854775807 ∧ RB w A' (trimB l) ∧ (∀ a, A' = some a → a.spot = none ∧ ∃ o0, A = some ⟨a.block, o0, none⟩ ∧ o0 ≤ a.off ∧ a.off + (trimB l).length ≤ o0 + l.length)
set_option maxRecDepth 200000 in
set_option maxHeartbeats 4000000 in
theorem trim_any {w : World} {g o c : Nat} {l : List UInt8} (hlc : l.length ≤ c) (hc : c ≤ 9223372036854775807) (hx : ∀ i u, l[i]? = some u → w.cell? ⟨g, o + i, none⟩ = some (.int .u8 u.toNat)) :
    Calls Tryd.prog 78 #[.slice (some ⟨g, o, none⟩) l.length c] w fun e w' => TrimEnd w (some ⟨g, o, none⟩) l e ∧ w = w' := by
  have HX := Lib.hid hx
  clear hx
  go_enter Tryd.func78, Tryd.ntmps78
  go_wp2
  go_loopg [3] l.length (fun gk u3 wr => ∃ i : Nat, i + gk = l.length ∧ u3 = .int .i64 i ∧ Hid (∀ c ∈ l.take i, blank c = true) ∧ wr = w)
  case atStart => exact ⟨0, by omega, rfl, Lib.hid (fun _ h => by simp at h), rfl⟩
  case round =>
    obtain ⟨i, hi, rfl, hall, rfl⟩ := hrel
    by_cases hbl : ∃ b, l[i]? = some b ∧ blank b = true
    · obtain ⟨b, hb, hbb⟩ := hbl
      have hlt : i < l.length := by
        rcases Nat.lt_or_ge i l.length with h' | h'
        · exact h'
        · rw [List.getElem?_eq_none h'] at hb; cases hb
      have hcell := HX.out i b hb
      have hnx : ∀ c ∈ l.take (i + 1), blank c = true := fun c hc => by
        rw [List.take_add_one, hb] at hc
        rcases List.mem_append.1 hc with h | h
        · exact hall.out c h
        · simp at h; subst h; exact hbb
      have HN := Lib.hid hnx
      clear hnx hb
      rcases blank_iff.1 hbb with rfl | rfl
      all_goals
        clear hbb
        go_wp2
        go_roundg (gk - 1)
        case measure => omega
        case rel => exact ⟨i + 1, by omega, by go_num, HN, rfl⟩
    · have hstop : ∀ b, l[i]? = some b → blank b = false := fun b hb => by
        rw [Bool.eq_false_iff]
        exact fun e => hbl ⟨b, hb, e⟩
      have HS := Lib.hid hstop
      have hil : i ≤ l.length := by omega
      obtain ⟨m, hm⟩ : ∃ m, m = l.length - i := ⟨_, rfl⟩
      have hdl : (l.drop i).length = m := by rw [List.length_drop, hm]
      obtain ⟨A2, hA2⟩ : ∃ A2 : Addr, A2 = (if c = i then ⟨g, o, none⟩ else ⟨g, o + i, none⟩) := ⟨_, rfl⟩
      have hx2 : m ≠ 0 → A2 = ⟨g, o + i, none⟩ := fun h0 => by rw [hA2, if_neg (by omega)]
      have hfin : ∀ gk2, gk2 ≤ m → (∀ c ∈ (l.drop i).drop gk2, blank c = true) → (∀ c, 0 < gk2 → (l.drop i)[gk2 - 1]? = some c → blank c = false) → TrimEnd wr (some ⟨g, o, none⟩) l (.returned (.slice (some A2) gk2 (c - i))) := fun gk2 h1 h2 h3 => by
        have ht := trimB_eq hall.out hstop h2 (by omega) h3
        have htl : (trimB l).length = gk2 := by rw [ht, List.length_take]; omega
        refine ⟨some A2, c - i, by rw [htl], by omega, by omega, fun hne => ?_, fun a' e => ?_⟩
        · have hm0 : m ≠ 0 := by
            rintro rfl
            apply hne
            rw [ht, show gk2 = 0 by omega]
            rfl
          refine ⟨g, o + i, by rw [hx2 hm0], fun j u hu => ?_⟩
          rw [ht, List.getElem?_take] at hu
          split at hu
          · rw [List.getElem?_drop] at hu
            have := HX.out (i + j) u hu
            rw [← Nat.add_assoc] at this
            exact this
          · cases hu
        · rw [hA2] at e
          split at e
          · injection e with e; subst e; exact ⟨rfl, o, rfl, Nat.le_refl _, by rw [htl]; show o + gk2 ≤ o + l.length; omega⟩
          · injection e with e; subst e; exact ⟨rfl, o, rfl, by show o ≤ o + i; omega, by rw [htl]; show o + i + gk2 ≤ o + l.length; omega⟩
      subst hm
      have HF := Lib.hid hfin
      have HA2 := Lib.hid hA2
      clear hfin hA2 hx2 hstop hdl
      by_cases hci : c = i
      · have hil2 : i = l.length := by omega
        subst hil2
        subst hci
        have hres := HF.out 0 (Nat.zero_le _) (fun c hc => by simp at hc) (fun c h0 => by omega)
        rw [HA2.out, if_pos rfl, Nat.sub_self] at hres
        have HE := Lib.hid hres
        clear hres hbl
        go_wp2
        go_loopg [4] 0 (fun gk u4 w2 => gk = 0 ∧ u4 = .int .i64 (-1) ∧ w2 = wr)
        case atStart => exact ⟨rfl, rfl, rfl⟩
        case round =>
          obtain ⟨rfl, rfl, rfl⟩ := hrel
          go_wp2
          go_ret
          exact ⟨HE.out, rfl⟩
      · have hic : (i : Int) ≤ (c : Int) := by omega
        have hall1 := hall
        by_cases hil2 : i = l.length
        · subst hil2
          have hres := HF.out 0 (Nat.zero_le _) (fun c hc => by simp at hc) (fun c h0 => by omega)
          rw [HA2.out, if_neg hci] at hres
          have HE := Lib.hid hres
          have hz : l.length - l.length = 0 := Nat.sub_self _
          clear hres hbl
          go_wp2
          go_loopg [4] 0 (fun gk u4 w2 => gk = 0 ∧ u4 = .int .i64 (-1) ∧ w2 = wr)
          case atStart => exact ⟨rfl, rfl, rfl⟩
          case round =>
            obtain ⟨rfl, rfl, rfl⟩ := hrel
            go_wp2
            go_ret
            exact ⟨HE.out, rfl⟩
        · obtain ⟨b0, hb0⟩ : ∃ b, l[i]? = some b := ⟨_, List.getElem?_eq_getElem (by omega)⟩
          have hbf := HS.out b0 hb0
          have hcell0 := HX.out i b0 hb0
          have hno : ¬ (b0 = 32 ∨ b0 = 9) := fun e => by rw [blank_iff.2 e] at hbf; cases hbf
          have n32 : ((b0.toNat : Int) == 32) = false := by rw [beq_eq_false_iff_ne]; exact fun e => hno (.inl ((byte_eq_iff b0 32).1 e))
          have n9 : ((b0.toNat : Int) == 9) = false := by rw [beq_eq_false_iff_ne]; exact fun e => hno (.inr ((byte_eq_iff b0 9).1 e))
          have hlt : i < l.length := by omega
          clear hb0 hbf hno hbl
          go_wp2
          go_loopg [4] (l.length - i) (fun gk u4 w2 => gk ≤ l.length - i ∧ u4 = .int .i64 ((gk : Int) - 1) ∧ Hid (∀ c ∈ (l.drop i).drop gk, blank c = true) ∧ w2 = wr)
          case atStart => exact ⟨Nat.le_refl _, rfl, Lib.hid (fun _ h => by rw [List.drop_eq_nil_of_le (by rw [List.length_drop]; exact Nat.le_refl _)] at h; cases h), rfl⟩
          case round =>
            obtain ⟨hg1, rfl, hall2, rfl⟩ := hrel
            by_cases hb2 : ∃ j b, gk = j + 1 ∧ (l.drop i)[j]? = some b ∧ blank b = true
            · obtain ⟨j, b, rfl, hb, hbb⟩ := hb2
              have hb' : l[i + j]? = some b := by rw [List.getElem?_drop] at hb; exact hb
              have hcell := HX.out (i + j) b hb'
              rw [← Nat.add_assoc] at hcell
              have hnx : ∀ c ∈ (l.drop i).drop j, blank c = true := fun c hc => by
                rw [List.drop_eq_getElem?_toList_append, hb] at hc
                rcases List.mem_append.1 hc with h | h
                · simp at h; subst h; exact hbb
                · exact hall2.out c h
              have HN := Lib.hid hnx
              have hji : ((j + 1 : Nat) : Int) - 1 = (j : Int) := by omega
              have hjl : j < l.length - i := by omega
              clear hnx hb hb'
              rcases blank_iff.1 hbb with rfl | rfl
              all_goals
                clear hbb
                go_wp2
                go_roundg j
                case measure => omega
                case rel => exact ⟨by omega, rfl, HN, rfl⟩
            · have hst2 : ∀ c, 0 < gk → (l.drop i)[gk - 1]? = some c → blank c = false := fun c h0 hc => by
                rw [Bool.eq_false_iff]
                exact fun e => hb2 ⟨gk - 1, c, by omega, hc, e⟩
              have hres := HF.out gk hg1 hall2.out hst2
              rw [HA2.out, if_neg hci] at hres
              have HE := Lib.hid hres
              have hgc : (gk : Int) ≤ (c - i : Nat) := by omega
              have hgn : gk ≤ c - i := by omega
              by_cases h0 : gk = 0
              · subst h0
                clear hres hst2 hb2
                go_wp2
                go_ret
                exact ⟨HE.out, rfl⟩
              · obtain ⟨j, rfl⟩ : ∃ j, gk = j + 1 := ⟨gk - 1, by omega⟩
                obtain ⟨b, hb⟩ : ∃ b, l[i + j]? = some b := ⟨_, List.getElem?_eq_getElem (by omega)⟩
                have hcell := HX.out (i + j) b hb
                rw [← Nat.add_assoc] at hcell
                have hbf := hst2 b (by omega) (by rw [List.getElem?_drop]; exact hb)
                have hno : ¬ (b = 32 ∨ b = 9) := fun e => by rw [blank_iff.2 e] at hbf; cases hbf
                have m32 : ((b.toNat : Int) == 32) = false := by rw [beq_eq_false_iff_ne]; exact fun e => hno (.inl ((byte_eq_iff b 32).1 e))
                have m9 : ((b.toNat : Int) == 9) = false := by rw [beq_eq_false_iff_ne]; exact fun e => hno (.inr ((byte_eq_iff b 9).1 e))
                have hji : ((j + 1 : Nat) : Int) - 1 = (j : Int) := by omega
                have hjl : j < l.length - i := by omega
                clear hres hst2 hb2 hb hbf hno h0
                go_wp2
                go_ret
                exact ⟨HE.out, rfl⟩
/-- .. of nil. -/
theorem trim_nil (w : World) : Calls Tryd.prog 78 #[.slice none 0 0] w fun e w' => TrimEnd w none [] e ∧ w = w' := by
  go_enter Tryd.func78, Tryd.ntmps78
  go_wp2
  go_loopg [3] 0 (fun gk u3 wr => gk = 0 ∧ u3 = .int .i64 0 ∧ wr = w)
  case atStart => exact ⟨rfl, rfl, rfl⟩
  case round =>
    obtain ⟨rfl, rfl, rfl⟩ := hrel
    go_wp2
    go_loopg [4] 0 (fun gk u4 w2 => gk = 0 ∧ u4 = .int .i64 (-1) ∧ w2 = wr)
    case atStart => exact ⟨rfl, rfl, rfl⟩
    case round =>
      obtain ⟨rfl, rfl, rfl⟩ := hrel
      go_wp2
      go_ret
      exact ⟨⟨none, 0, rfl, Nat.le_refl _, by decide, RB.nil _ _, fun _ e => by cases e⟩, rfl⟩
/-- .. of a slice that reads as l. -/
theorem trim_all {w : World} {A : Option Addr} {c : Nat} {l : List UInt8} (hlc : l.length ≤ c) (hc : c ≤ 9223372036854775807) (hr : RB w A l) (h0 : A = none → c = 0) (hs : ∀ a, A = some a → a.spot = none) :
    Calls Tryd.prog 78 #[.slice A l.length c] w fun e w' => TrimEnd w A l e ∧ w = w' := by
  rcases A with _ | ⟨g, o, sp⟩
  · have hl : l = [] := by
      rcases l with _ | ⟨b, u⟩
      · rfl
      · obtain ⟨_, _, e, _⟩ := hr (by simp); cases e
    subst hl
    obtain rfl := h0 rfl
    exact trim_nil w
  · obtain rfl := hs _ rfl
    refine trim_any hlc hc (fun i u hu => ?_)
    obtain ⟨g', o', e, hx⟩ := hr (by rintro rfl; simp at hu)
    injection e with e; injection e with e1 e2; subst e1; subst e2
    exact hx i u hu
end Go.Proofs.YteiiocibldpioaaDoor
