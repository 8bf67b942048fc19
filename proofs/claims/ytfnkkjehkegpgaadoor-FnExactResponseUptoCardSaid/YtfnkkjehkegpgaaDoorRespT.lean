/- The walks of the reference's AnswerText and Message. -/
import Derived.Test.YtfnkkjehkegpgaaDoorRespS
import Derived.Test.YtfnkkjehkegpgaaDoorCodeB
namespace Go.Proofs.YtfnkkjehkegpgaaDoor
open Go.RowKit

theorem drop_cons_of {ls : List AnsL} {k : Nat} {l : AnsL} (h : ls[k]? = some l) : ls.drop k = l :: ls.drop (k + 1) := by
  obtain ⟨hk, e⟩ := List.getElem?_eq_some_iff.1 h
  rw [List.drop_eq_getElem_cons hk, e]
theorem drop_empty {ls : List AnsL} {k : Nat} (h : k < ls.length) : (ls.drop (k + 1)).isEmpty = decide (k + 1 = ls.length) := by
  by_cases e : k + 1 = ls.length
  · rw [decide_eq_true e, e, List.drop_length]; rfl
  · rw [decide_eq_false e]
    cases h2 : ls.drop (k + 1) with
    | nil => have := congrArg List.length h2; rw [List.length_drop, List.length_nil] at this; omega
    | cons _ _ => rfl
set_option maxRecDepth 200000 in
set_option maxHeartbeats 3200000 in
theorem answerText_any {w : World} {A : Option Addr} {N c : Nat} {ls : List AnsL} (n : Int) (h100 : 100 ≤ n) (h999 : n ≤ 999) (hr : AL w A ls) (hn : N = ls.length) (hT : (ansText n ls).length ≤ 4398046511104) (hm : ls.length ≤ 1048576) (hne : ls ≠ []) :
    Calls Tryd.prog 12 #[.int .i64 n, .slice A N c] w fun e w' => e = .returned (.string ⟨(ansText n ls).toArray⟩) ∧ Below w.heap.size w w' := by
  subst hn
  obtain ⟨g, o, rfl, hx⟩ := hr hne
  obtain ⟨T, hTe⟩ : ∃ T, T = ansText n ls := ⟨_, rfl⟩
  have hd3 : (digitsL n).length = 3 := rfl
  have hdg := specDigits_any n h100 h999
  have hline : ∀ (last : Bool) (l : AnsL), ansLine n last l = if l.bare then l.t else digitsL n ++ (if last then 32 else 45) :: l.t := fun _ _ => rfl
  rw [← hTe] at hT ⊢
  have HX := Lib.hid (And.intro hx (And.intro hTe hT))
  generalize hD : digitsL n = D at hd3 hdg hline
  have HD := Lib.hid (And.intro hdg (And.intro hline hd3))
  clear hr hx hTe hT hdg hline hd3 hD
  go_enter Tryd.func12, Tryd.ntmps12
  go_wp2
  go_loopg [5, 6, 7, 10] ls.length (fun gk u5 _ _ i wr => ∃ (k : Nat) (acc : List UInt8), k + gk = ls.length ∧ i = .int .i64 k ∧ u5 = .string ⟨acc.toArray⟩ ∧ acc.length ≤ 4398046511104 ∧ Hid (acc ++ ansText n (ls.drop k) = T) ∧ Below w.heap.size w wr)
  case atStart => exact ⟨0, [], by omega, rfl, rfl, by simp, Lib.hid (by rw [HX.out.2.1]; simp), Below.refl _ _⟩
  case round =>
    obtain ⟨k, acc, hk, rfl, rfl, hal, hac, hb⟩ := hrel
    by_cases hlt : k < ls.length
    · obtain ⟨l, hL⟩ : ∃ l, l = ls[k] := ⟨_, rfl⟩
      have hle : ls[k]? = some l := by rw [hL]; exact List.getElem?_eq_getElem hlt
      obtain ⟨d0, d1⟩ := HX.out.1 k l hle
      have c0 := (hb.cell (p := ⟨g, o + k * 2, none⟩) (World.block_lt_of_cell? _ _ d0)).trans d0
      have c1 := (hb.cell (p := ⟨g, o + k * 2 + 1, none⟩) (World.block_lt_of_cell? _ _ d1)).trans d1
      have hnx := hac.out
      rw [drop_cons_of hle] at hnx
      simp only [ansText] at hnx
      rw [drop_empty hlt, HD.out.2.1] at hnx
      have hTl := HX.out.2.2
      obtain ⟨t, bare⟩ := l
      have c0 : wr.cell? ⟨g, o + k * 2, none⟩ = some (.string ⟨t.toArray⟩) := c0
      have c1 : wr.cell? ⟨g, o + k * 2 + 1, none⟩ = some (.bool bare) := c1
      have hB : Blk (wr.alloc (.cells #[.string ⟨t.toArray⟩, .bool bare] 42)) wr.heap.size #[.string ⟨t.toArray⟩, .bool bare] 42 := Blk.new wr _ _
      have hW := hb.size
      cases bare
      · by_cases hlast : k + 1 = ls.length
        · have n1 : ((k : Int) == (ls.length : Int) - 1) = true := by rw [beq_iff_eq]; omega
          have hnx : acc ++ (D ++ 32 :: t ++ (13 :: 10 :: ansText n (ls.drop (k + 1)))) = T := by rw [decide_eq_true hlast] at hnx; exact hnx
          have hlen : acc.length + (t.length + 6) ≤ 4398046511104 := by have := congrArg List.length hnx; simp [HD.out.2.2] at this; omega
          have hD3 : D.length ≤ 3 := by have := HD.out.2.2; omega
          have HS := Lib.hid (And.intro hnx (And.intro hb hB))
          clear hL hle d0 d1 hb hnx hac hlast hB hTl
          go_wp2_with (go_at_call 16; refine (HD.out.1 _).mono ?_; rintro e w3 ⟨rfl, hb3⟩; have hB3 := HS.out.2.2.same (hb3.block wr.heap.size (by simp)); have p0 : w3.cell? ⟨wr.heap.size, 0, none⟩ = some (.string ⟨t.toArray⟩) := hB3.cell 0; have H3 := Lib.hid hb3; clear hb3 hB3)
          go_roundg (gk - 1)
          case measure => omega
          case rel => exact ⟨k + 1, _, by omega, by go_num, rfl, by simp; omega, Lib.hid (by rw [← HS.out.1]; simp), (HS.out.2.1.alloc hW _).trans (H3.out.mono (by simp; omega))⟩
        · have n1 : ((k : Int) == (ls.length : Int) - 1) = false := by rw [beq_eq_false_iff_ne]; omega
          have m1 : ¬ (k : Int) = (ls.length : Int) - 1 := by omega
          have hnx : acc ++ (D ++ 45 :: t ++ (13 :: 10 :: ansText n (ls.drop (k + 1)))) = T := by rw [decide_eq_false hlast] at hnx; exact hnx
          have hlen : acc.length + (t.length + 6) ≤ 4398046511104 := by have := congrArg List.length hnx; simp [HD.out.2.2] at this; omega
          have hD3 : D.length ≤ 3 := by have := HD.out.2.2; omega
          have HS := Lib.hid (And.intro hnx (And.intro hb hB))
          clear hL hle d0 d1 hb hnx hac hlast hB hTl
          go_wp2_with (go_at_call 16; refine (HD.out.1 _).mono ?_; rintro e w3 ⟨rfl, hb3⟩; have hB3 := HS.out.2.2.same (hb3.block wr.heap.size (by simp)); have p0 : w3.cell? ⟨wr.heap.size, 0, none⟩ = some (.string ⟨t.toArray⟩) := hB3.cell 0; have H3 := Lib.hid hb3; clear hb3 hB3)
          go_roundg (gk - 1)
          case measure => omega
          case rel => exact ⟨k + 1, _, by omega, by go_num, rfl, by simp; omega, Lib.hid (by rw [← HS.out.1]; simp), (HS.out.2.1.alloc hW _).trans (H3.out.mono (by simp; omega))⟩
      · have hnx : acc ++ (t ++ (13 :: 10 :: ansText n (ls.drop (k + 1)))) = T := hnx
        have hlen : acc.length + (t.length + 2) ≤ 4398046511104 := by have := congrArg List.length hnx; simp at this; omega
        have HS := Lib.hid (And.intro hnx (And.intro hb hB))
        clear hL hle d0 d1 hb hnx hac hB hTl
        go_wp2
        go_roundg (gk - 1)
        case measure => omega
        case rel => exact ⟨k + 1, _, by omega, by go_num, rfl, by simp; omega, Lib.hid (by rw [← HS.out.1]; simp), HS.out.2.1.alloc hW _⟩
    · have hfin := hac.out
      rw [List.drop_eq_nil_of_le (by omega)] at hfin
      have HF := Lib.hid (And.intro (show acc = T by simpa [ansText] using hfin) hb)
      clear hfin hac hb
      go_wp2
      go_ret
      exact ⟨ret_str HF.out.1, HF.out.2⟩
set_option maxRecDepth 200000 in
set_option maxHeartbeats 3200000 in
theorem message_any {w : World} {A : Option Addr} {N c : Nat} {ls : List AnsL} (hr : AL w A ls) (hn : N = ls.length) (hT : (ansMsg ls).length ≤ 4398046511104) (hm : ls.length ≤ 1048576) (hne : ls ≠ []) :
    Calls Tryd.prog 13 #[.slice A N c] w fun e w' => e = .returned (.string ⟨(ansMsg ls).toArray⟩) ∧ Below w.heap.size w w' := by
  subst hn
  obtain ⟨g, o, rfl, hx⟩ := hr hne
  obtain ⟨T, hTe⟩ : ∃ T, T = ansMsg ls := ⟨_, rfl⟩
  rw [← hTe] at hT ⊢
  have HX := Lib.hid (And.intro hx (And.intro hTe hT))
  clear hr hx hTe hT
  go_enter Tryd.func13, Tryd.ntmps13
  go_wp2
  go_loopg [3, 4, 5, 8] ls.length (fun gk u3 _ _ i wr => ∃ (k : Nat) (acc : List UInt8), k + gk = ls.length ∧ i = .int .i64 k ∧ u3 = .string ⟨acc.toArray⟩ ∧ acc.length ≤ 4398046511104 ∧ Hid ((k = 0 → acc = []) ∧ (0 < k → acc ++ ansMore (ls.drop k) = T)) ∧ Below w.heap.size w wr)
  case atStart => exact ⟨0, [], by omega, rfl, rfl, by simp, Lib.hid ⟨fun _ => rfl, fun h => by omega⟩, Below.refl _ _⟩
  case round =>
    obtain ⟨k, acc, hk, rfl, rfl, hal, hac, hb⟩ := hrel
    by_cases hlt : k < ls.length
    · obtain ⟨l, hL⟩ : ∃ l, l = ls[k] := ⟨_, rfl⟩
      have hle : ls[k]? = some l := by rw [hL]; exact List.getElem?_eq_getElem hlt
      obtain ⟨d0, d1⟩ := HX.out.1 k l hle
      have c0 := (hb.cell (p := ⟨g, o + k * 2, none⟩) (World.block_lt_of_cell? _ _ d0)).trans d0
      have c1 := (hb.cell (p := ⟨g, o + k * 2 + 1, none⟩) (World.block_lt_of_cell? _ _ d1)).trans d1
      have hdc := drop_cons_of hle
      have hTl := HX.out.2.2
      have hW := hb.size
      obtain ⟨t, bare⟩ := l
      have c0 : wr.cell? ⟨g, o + k * 2, none⟩ = some (.string ⟨t.toArray⟩) := c0
      have c1 : wr.cell? ⟨g, o + k * 2 + 1, none⟩ = some (.bool bare) := c1
      by_cases h0 : k = 0
      · subst h0
        have ha0 := hac.out.1 rfl
        subst ha0
        have hnx : t ++ ansMore (ls.drop 1) = T := by
          rw [HX.out.2.1]
          have : ls = ⟨t, bare⟩ :: ls.drop 1 := by simpa using hdc
          conv => rhs; rw [this]
          rfl
        have hlen : t.length ≤ 4398046511104 := by have := congrArg List.length hnx; rw [List.length_append] at this; omega
        rw [Nat.zero_mul, Nat.add_zero] at c0 c1
        have HS := Lib.hid (And.intro hnx hb)
        clear hL hle d0 d1 hb hnx hac hdc hTl
        go_wp2
        go_roundg (gk - 1)
        case measure => omega
        case rel => exact ⟨1, _, by omega, by go_num, rfl, by simpa using hlen, Lib.hid ⟨fun h => (by omega), fun _ => by simpa using HS.out.1⟩, HS.out.2.alloc hW _⟩
      · have hnx : acc ++ 10 :: (t ++ ansMore (ls.drop (k + 1))) = T := by
          have h := hac.out.2 (by omega)
          rw [hdc] at h
          exact h
        have hlen : acc.length + 1 + t.length ≤ 4398046511104 := by have := congrArg List.length hnx; simp at this; omega
        have hki : (0 : Int) < (k : Int) := by omega
        have HS := Lib.hid (And.intro hnx hb)
        clear hL hle d0 d1 hb hnx hac hdc hTl
        go_wp2
        go_roundg (gk - 1)
        case measure => omega
        case rel => exact ⟨k + 1, _, by omega, by go_num, rfl, by simp; omega, Lib.hid ⟨fun h => (by omega), fun _ => by rw [← HS.out.1]; simp⟩, HS.out.2.alloc hW _⟩
    · have hpos : 0 < ls.length := List.length_pos_iff.2 hne
      have hfin := hac.out.2 (by omega)
      rw [List.drop_eq_nil_of_le (by omega)] at hfin
      have HF := Lib.hid (And.intro (show acc = T by simpa [ansMore] using hfin) hb)
      clear hfin hac hb
      go_wp2
      go_ret
      exact ⟨ret_str HF.out.1, HF.out.2⟩
end Go.Proofs.YtfnkkjehkegpgaaDoor
