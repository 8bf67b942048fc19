/- The walks of the reference's long lines: the bounds, Well, Text, Says. -/
import Derived.Test.YteiiocibldpioaaDoorSpecG
import Derived.Test.YteiiocibldpioaaDoorSpecL
import Derived.Test.YteiiocibldpioaaDoorOpenL
import Derived.Test.YteiiocibldpioaaDoorContLaw
namespace Go.Proofs.YteiiocibldpioaaDoor
open Go.RowKit

def fits2 (L : LongR) : Bool := (decide (L.ps.length ≤ 2147483647) && allLe 2147483647 L.ps) && decide (L.bl.length ≤ 2147483647)
set_option maxRecDepth 200000 in
theorem zzFits2_any (L : LongR) (hL : L.len) (B : Option Addr) (c : Nat) (w : World) (hs : SL w B L.ps) :
    Calls Tryd.prog 54 #[.agg #[.slice B L.ps.length c, .string ⟨L.bl.toArray⟩, .bool L.feed]] w fun e w' => e = .returned (.bool (fits2 L)) ∧ Below w.heap.size w w' := by
  obtain ⟨ps, bl, feed⟩ := L
  obtain ⟨h1, h2, h3⟩ := hL
  obtain ⟨f, hf⟩ : ∃ f, f = (decide (ps.length ≤ 2147483647) && allLe 2147483647 ps) := ⟨_, rfl⟩
  have hz := zzFits3_any (c := c) (hs.below ((Below.refl _ w).alloc (Nat.le_refl _) (.cells #[.slice B ps.length c, .string ⟨bl.toArray⟩, .bool feed] 51))) rfl h1 h2
  show Calls Tryd.prog 54 #[.agg #[.slice B ps.length c, .string ⟨bl.toArray⟩, .bool feed]] w fun e w' => e = .returned (.bool ((decide (ps.length ≤ 2147483647) && allLe 2147483647 ps) && decide (bl.length ≤ 2147483647))) ∧ Below w.heap.size w w'
  rw [← hf] at hz ⊢
  have HZ := Lib.hid hz
  have h3 : bl.length ≤ 9223372036854775807 := h3
  clear hz hf h1 hs
  by_cases hb : bl.length ≤ 2147483647
  · cases f
    all_goals
      go_enter Tryd.func54, Tryd.ntmps54
      go_wp2_with (go_at_call 21; refine HZ.out.mono ?_; rintro e w' ⟨rfl, rfl⟩)
      go_ret
      exact ⟨ret_bool (by simp [hb]), (Below.refl _ _).alloc (Nat.le_refl _) _⟩
  · cases f
    all_goals
      go_enter Tryd.func54, Tryd.ntmps54
      go_wp2_with (go_at_call 21; refine HZ.out.mono ?_; rintro e w' ⟨rfl, rfl⟩)
      go_ret
      exact ⟨ret_bool (by simp [hb]), (Below.refl _ _).alloc (Nat.le_refl _) _⟩
/-- A piece will do among n. -/
def pieceB (n : Nat) (p : List UInt8) : Bool := bareB p && !(p.isEmpty && decide (1 < n))
def wellB (L : LongR) : Bool := L.ps.all (pieceB L.ps.length) && (decide (0 < L.ps.length) && blanksB L.bl && (!L.bl.isEmpty || decide (L.ps.length = 1)))
theorem all_snoc {α : Type} (f : α → Bool) (ls : List α) (k : Nat) (h : k < ls.length) : (ls.take (k + 1)).all f = ((ls.take k).all f && f ls[k]) := by
  rw [List.take_succ_eq_append_getElem h, List.all_append]
  simp only [List.all_cons, List.all_nil, Bool.and_true]
theorem all_bad {α : Type} (f : α → Bool) (ls : List α) (k : Nat) (h : k < ls.length) (hc : f ls[k] = false) : ls.all f = false := by
  rw [Bool.eq_false_iff]
  intro h1
  rw [List.all_eq_true.1 h1 ls[k] (List.getElem_mem h)] at hc
  cases hc
set_option maxRecDepth 200000 in
set_option maxHeartbeats 1600000 in
theorem well_any (L : LongR) (hL : L.len) (B : Option Addr) (c : Nat) (w : World) (hs : SL w B L.ps) :
    Calls Tryd.prog 33 #[.agg #[.slice B L.ps.length c, .string ⟨L.bl.toArray⟩, .bool L.feed]] w fun e w' => e = .returned (.bool (wellB L)) ∧ Below w.heap.size w w' := by
  obtain ⟨ps, bl, feed⟩ := L
  obtain ⟨h1, h2, h3⟩ := hL
  have h1 : ∀ l ∈ ps, l.length ≤ 9223372036854775807 := h1
  have h2 : ps.length ≤ 9223372036854775807 := h2
  have h3 : bl.length ≤ 9223372036854775807 := h3
  show Calls Tryd.prog 33 #[.agg #[.slice B ps.length c, .string ⟨bl.toArray⟩, .bool feed]] w fun e w' => e = .returned (.bool (ps.all (pieceB ps.length) && (decide (0 < ps.length) && blanksB bl && (!bl.isEmpty || decide (ps.length = 1))))) ∧ Below w.heap.size w w'
  have hs2 := hs.below ((Below.refl _ w).alloc (Nat.le_refl _) (.cells #[.slice B ps.length c, .string ⟨bl.toArray⟩, .bool feed] 51))
  have hbk := fun w => blanks_any bl h3 w
  obtain ⟨bk, hbke⟩ : ∃ bk, bk = blanksB bl := ⟨_, rfl⟩
  rw [← hbke] at hbk ⊢
  by_cases hne : ps = []
  · subst hne
    clear hbk hs2 hs h1
    go_enter Tryd.func33, Tryd.ntmps33
    go_wp2
    go_loop [8] (fun i => i = .int .i64 0) (fun _ => 0)
    case atStart => rfl
    case round =>
      subst hrel
      go_wp2
      go_ret
      exact ⟨rfl, (Below.refl _ _).alloc (Nat.le_refl _) _⟩
  · obtain ⟨g, o, rfl, hx⟩ := hs2 hne
    have HX := Lib.hid (And.intro hx (And.intro h1 hbk))
    have hpos : 0 < ps.length := List.length_pos_iff.2 hne
    clear hx h1 hbk hs hs2 hbke
    go_enter Tryd.func33, Tryd.ntmps33
    go_wp2
    go_loop [4, 8] (fun _ i => ∃ k : Nat, k ≤ ps.length ∧ i = .int .i64 k ∧ Hid ((ps.take k).all (pieceB ps.length) = true)) (fun _ i => ps.length - (intOf i).toNat)
    case atStart => exact ⟨0, Nat.zero_le _, rfl, Lib.hid rfl⟩
    case round =>
      obtain ⟨k, hk, rfl, hcl⟩ := hrel
      by_cases hlt : k < ps.length
      · obtain ⟨s, hs⟩ : ∃ s, s = ps[k] := ⟨_, rfl⟩
        have hcell := HX.out.1 k s (by rw [hs]; exact List.getElem?_eq_getElem hlt)
        have hsl : s.length ≤ 9223372036854775807 := by rw [hs]; exact HX.out.2.1 _ (List.getElem_mem hlt)
        have hbr := fun w => bare_any s hsl w
        have hgo : pieceB ps.length s = true → (ps.take (k + 1)).all (pieceB ps.length) = true := fun h => by rw [all_snoc _ ps k hlt, hcl.out, ← hs, h]; rfl
        have hno : pieceB ps.length s = false → ps.all (pieceB ps.length) = false := fun h => all_bad _ ps k hlt (by rw [← hs]; exact h)
        have HG := Lib.hid (And.intro hgo hno)
        have hpe : pieceB ps.length s = (bareB s && !(s.isEmpty && decide (1 < ps.length))) := rfl
        obtain ⟨br, hbre⟩ : ∃ br, br = bareB s := ⟨_, rfl⟩
        rw [← hbre] at hbr hpe
        have HB := Lib.hid (And.intro hbr hpe)
        clear hs hgo hno hbr hpe hbre
        cases br
        · go_wp2_with (go_at_call 55; refine (HB.out.1 _).mono ?_; rintro e w' ⟨rfl, rfl⟩)
          go_ret
          exact ⟨ret_bool (by rw [HG.out.2 HB.out.2]; rfl), (Below.refl _ _).alloc (Nat.le_refl _) _⟩
        · rcases s with _ | ⟨a, t⟩
          · by_cases h1n : 1 < ps.length
            · have h1i : (1 : Int) < (ps.length : Int) := by omega
              go_wp2_with (go_at_call 55; refine (HB.out.1 _).mono ?_; rintro e w' ⟨rfl, rfl⟩)
              go_ret
              exact ⟨ret_bool (by rw [HG.out.2 (by rw [HB.out.2]; simp [h1n])]; rfl), (Below.refl _ _).alloc (Nat.le_refl _) _⟩
            · have h1i : ¬ (1 : Int) < (ps.length : Int) := by omega
              go_wp2_with (go_at_call 55; refine (HB.out.1 _).mono ?_; rintro e w' ⟨rfl, rfl⟩)
              go_round
              case rel => exact ⟨k + 1, by omega, by go_num, Lib.hid (HG.out.1 (by rw [HB.out.2]; simp [h1n]))⟩
              case measure => simp [intOf]; omega
          · go_wp2_with (go_at_call 55; refine (HB.out.1 _).mono ?_; rintro e w' ⟨rfl, rfl⟩)
            go_round
            case rel => exact ⟨k + 1, by omega, by go_num, Lib.hid (HG.out.1 (by rw [HB.out.2]; simp))⟩
            case measure => simp [intOf]; omega
      · have hall := hcl.out
        rw [List.take_of_length_le (by omega)] at hall
        have HA := Lib.hid hall
        clear hall
        have hpi : (0 : Int) < (ps.length : Int) := by omega
        cases bk
        · go_wp2_with (go_at_call 56; refine (HX.out.2.2 _).mono ?_; rintro e w' ⟨rfl, rfl⟩)
          go_ret
          exact ⟨ret_bool (by rw [HA.out]; simp), (Below.refl _ _).alloc (Nat.le_refl _) _⟩
        · rcases bl with _ | ⟨a, t⟩
          · by_cases h1n : ps.length = 1
            · have h1i : ((ps.length : Int) == 1) = true := by rw [h1n]; rfl
              go_wp2_with (go_at_call 56; refine (HX.out.2.2 _).mono ?_; rintro e w' ⟨rfl, rfl⟩)
              go_ret
              exact ⟨ret_bool (by rw [HA.out]; simp [h1n]), (Below.refl _ _).alloc (Nat.le_refl _) _⟩
            · have h1i : ((ps.length : Int) == 1) = false := by rw [beq_eq_false_iff_ne]; omega
              go_wp2_with (go_at_call 56; refine (HX.out.2.2 _).mono ?_; rintro e w' ⟨rfl, rfl⟩)
              go_ret
              exact ⟨ret_bool (by rw [HA.out]; simp [h1n]), (Below.refl _ _).alloc (Nat.le_refl _) _⟩
          · go_wp2_with (go_at_call 56; refine (HX.out.2.2 _).mono ?_; rintro e w' ⟨rfl, rfl⟩)
            go_ret
            exact ⟨ret_bool (by rw [HA.out]; simp; omega), (Below.refl _ _).alloc (Nat.le_refl _) _⟩
/-- The text of pieces. -/
def textR (bl : List UInt8) (feed : Bool) : List (List UInt8) → List UInt8
  | [] => []
  | p :: r => p ++ (eol feed ++ moreText bl feed r)
def saysR : List (List UInt8) → List UInt8
  | [] => []
  | p :: r => p ++ moreSays r
theorem textR_snoc (bl : List UInt8) (feed : Bool) (ps : List (List UInt8)) (p : List UInt8) : textR bl feed (ps ++ [p]) = (if ps = [] then [] else textR bl feed ps ++ bl) ++ (p ++ eol feed) := by
  cases ps with
  | nil => simp [textR, moreText]
  | cons q r => simp [textR, moreText]
theorem saysR_snoc (ps : List (List UInt8)) (p : List UInt8) : saysR (ps ++ [p]) = (if ps = [] then [] else saysR ps ++ [32]) ++ p := by
  cases ps with
  | nil => simp [saysR, moreSays]
  | cons q r => simp [saysR, moreSays]
theorem textR_take_le (bl : List UInt8) (feed : Bool) (ps : List (List UInt8)) (k : Nat) : (textR bl feed (ps.take k)).length ≤ (textR bl feed ps).length := by
  cases ps with
  | nil => simp
  | cons p r =>
    cases k with
    | zero => simp [textR]
    | succ k =>
      have h : (moreText bl feed (r.take k)).length ≤ (moreText bl feed r).length := by
        have h2 : moreText bl feed r = moreText bl feed (r.take k) ++ moreText bl feed (r.drop k) := by
          unfold moreText
          rw [← List.flatMap_append, List.take_append_drop]
        rw [h2, List.length_append]
        omega
      simp only [List.take_succ_cons, textR, List.length_append]
      omega
theorem saysR_take_le (ps : List (List UInt8)) (k : Nat) : (saysR (ps.take k)).length ≤ (saysR ps).length := by
  cases ps with
  | nil => simp
  | cons p r =>
    cases k with
    | zero => simp [saysR]
    | succ k =>
      have h : (moreSays (r.take k)).length ≤ (moreSays r).length := by
        have h2 : moreSays r = moreSays (r.take k) ++ moreSays (r.drop k) := by
          unfold moreSays
          rw [← List.flatMap_append, List.take_append_drop]
        rw [h2, List.length_append]
        omega
      simp only [List.take_succ_cons, saysR, List.length_append]
      omega
set_option maxRecDepth 200000 in
set_option maxHeartbeats 1600000 in
theorem longText_any (L : LongR) (B : Option Addr) (c : Nat) (w : World) (hs : SL w B L.ps) (hN : (textR L.bl L.feed L.ps).length ≤ 4398046511104) (hn : L.ps.length ≤ 9223372036854775807) :
    Calls Tryd.prog 34 #[.agg #[.slice B L.ps.length c, .string ⟨L.bl.toArray⟩, .bool L.feed]] w fun e w' => e = .returned (.string ⟨(textR L.bl L.feed L.ps).toArray⟩) ∧ Below w.heap.size w w' := by
  obtain ⟨ps, bl, feed⟩ := L
  have hN : (textR bl feed ps).length ≤ 4398046511104 := hN
  have hn : ps.length ≤ 9223372036854775807 := hn
  show Calls Tryd.prog 34 #[.agg #[.slice B ps.length c, .string ⟨bl.toArray⟩, .bool feed]] w fun e w' => e = .returned (.string ⟨(textR bl feed ps).toArray⟩) ∧ Below w.heap.size w w'
  have hs2 := hs.below ((Below.refl _ w).alloc (Nat.le_refl _) (.cells #[.slice B ps.length c, .string ⟨bl.toArray⟩, .bool feed] 51))
  by_cases hne : ps = []
  · subst hne
    clear hs2 hs
    cases feed
    all_goals
      go_enter Tryd.func34, Tryd.ntmps34
      go_wp2
      go_loop [4, 12] (fun u i => i = .int .i64 0 ∧ u = .string ⟨#[]⟩) (fun _ _ => 0)
      case atStart => exact ⟨rfl, rfl⟩
      case round =>
        obtain ⟨rfl, rfl⟩ := hrel
        go_wp2
        go_ret
        exact ⟨rfl, (Below.refl _ _).alloc (Nat.le_refl _) _⟩
  · obtain ⟨g, o, rfl, hx⟩ := hs2 hne
    have HX := Lib.hid (And.intro hx (show ∀ k, (textR bl feed (ps.take k)).length ≤ 4398046511104 from fun k => Nat.le_trans (textR_take_le bl feed ps k) hN))
    clear hx hs hs2 hN
    obtain ⟨en, hen⟩ : ∃ en, en = eol feed := ⟨_, rfl⟩
    have hsn := fun (k : Nat) (hk : k < ps.length) => (show textR bl feed (ps.take (k + 1)) = (if k = 0 then [] else textR bl feed (ps.take k) ++ bl) ++ (ps[k] ++ en) by
      rw [List.take_succ_eq_append_getElem hk, textR_snoc, hen]
      by_cases h0 : k = 0
      · subst h0; simp
      · rw [if_neg h0, if_neg (fun e => by have := congrArg List.length e; rw [List.length_take, List.length_nil] at this; omega)])
    have HSN := Lib.hid (And.intro hsn (show ∀ k, k = 0 → textR bl feed (ps.take k) = [] from fun k h => by subst h; simp [textR]))
    clear hsn
    cases feed
    all_goals
      go_enter Tryd.func34, Tryd.ntmps34
      go_wp2
      go_loop [4, 5, 6, 12] (fun u4 _ _ i => ∃ k : Nat, k ≤ ps.length ∧ i = .int .i64 k ∧ ∃ acc : List UInt8, u4 = .string ⟨acc.toArray⟩ ∧ acc.length ≤ 4398046511104 ∧ Hid (acc = textR bl _ (ps.take k))) (fun _ _ _ i => ps.length - (intOf i).toNat)
      case atStart => exact ⟨0, Nat.zero_le _, rfl, [], rfl, Nat.zero_le _, Lib.hid rfl⟩
      case round =>
        obtain ⟨k, hk, rfl, acc, rfl, hal, hacc⟩ := hrel
        by_cases hlt : k < ps.length
        · obtain ⟨s, hs⟩ : ∃ s, s = ps[k] := ⟨_, rfl⟩
          have hcell := HX.out.1 k s (by rw [hs]; exact List.getElem?_eq_getElem hlt)
          have hsn := HSN.out.1 k hlt
          have hle := HX.out.2 (k + 1)
          rw [← hs, ← hacc.out] at hsn
          rw [hsn] at hle
          by_cases h0 : k = 0
          · have ha0 : acc = [] := hacc.out.trans (HSN.out.2 k h0)
            subst h0
            subst ha0
            rw [if_pos rfl, List.nil_append] at hsn hle
            rw [Nat.add_zero] at hcell
            have HS := Lib.hid hsn
            have hsl : s.length + en.length ≤ 4398046511104 := by rw [List.length_append] at hle; omega
            have hsl2 : s.length ≤ 4398046511104 := by omega
            clear hs hsn hle
            go_wp2
            go_round
            case rel => exact ⟨1, by omega, by go_num, _, rfl, by rw [hen] at hsl; simp [eol] at hsl ⊢; omega, Lib.hid (by rw [HS.out, hen]; rfl)⟩
            case measure => simp [intOf]; omega
          · rw [if_neg h0] at hsn hle
            have HS := Lib.hid hsn
            have hsl : acc.length + bl.length + s.length + en.length ≤ 4398046511104 := by simp only [List.length_append] at hle; omega
            have hsl2 : acc.length + bl.length + s.length ≤ 4398046511104 := by omega
            have hkp : (0 : Int) < (k : Int) := by omega
            clear hs hsn hle
            go_wp2
            go_round
            case rel => exact ⟨k + 1, by omega, by go_num, _, rfl, by rw [hen] at hsl; simp [eol] at hsl ⊢; omega, Lib.hid (by rw [HS.out, hen]; simp [eol])⟩
            case measure => simp [intOf]; omega
        · have hfin := hacc.out
          rw [List.take_of_length_le (by omega)] at hfin
          have HF := Lib.hid hfin
          clear hfin
          go_wp2
          go_ret
          exact ⟨ret_str HF.out, (Below.refl _ _).alloc (Nat.le_refl _) _⟩
set_option maxRecDepth 200000 in
set_option maxHeartbeats 1600000 in
theorem longSays_any (L : LongR) (B : Option Addr) (c : Nat) (w : World) (hs : SL w B L.ps) (hN : (saysR L.ps).length ≤ 4398046511104) (hn : L.ps.length ≤ 9223372036854775807) :
    Calls Tryd.prog 35 #[.agg #[.slice B L.ps.length c, .string ⟨L.bl.toArray⟩, .bool L.feed]] w fun e w' => e = .returned (.string ⟨(saysR L.ps).toArray⟩) ∧ Below w.heap.size w w' := by
  obtain ⟨ps, bl, feed⟩ := L
  have hN : (saysR ps).length ≤ 4398046511104 := hN
  have hn : ps.length ≤ 9223372036854775807 := hn
  show Calls Tryd.prog 35 #[.agg #[.slice B ps.length c, .string ⟨bl.toArray⟩, .bool feed]] w fun e w' => e = .returned (.string ⟨(saysR ps).toArray⟩) ∧ Below w.heap.size w w'
  have hs2 := hs.below ((Below.refl _ w).alloc (Nat.le_refl _) (.cells #[.slice B ps.length c, .string ⟨bl.toArray⟩, .bool feed] 51))
  by_cases hne : ps = []
  · subst hne
    clear hs2 hs
    go_enter Tryd.func35, Tryd.ntmps35
    go_wp2
    go_loop [3, 9] (fun u i => i = .int .i64 0 ∧ u = .string ⟨#[]⟩) (fun _ _ => 0)
    case atStart => exact ⟨rfl, rfl⟩
    case round =>
      obtain ⟨rfl, rfl⟩ := hrel
      go_wp2
      go_ret
      exact ⟨rfl, (Below.refl _ _).alloc (Nat.le_refl _) _⟩
  · obtain ⟨g, o, rfl, hx⟩ := hs2 hne
    have HX := Lib.hid (And.intro hx (show ∀ k, (saysR (ps.take k)).length ≤ 4398046511104 from fun k => Nat.le_trans (saysR_take_le ps k) hN))
    clear hx hs hs2 hN
    have hsn := fun (k : Nat) (hk : k < ps.length) => (show saysR (ps.take (k + 1)) = (if k = 0 then [] else saysR (ps.take k) ++ [32]) ++ ps[k] by
      rw [List.take_succ_eq_append_getElem hk, saysR_snoc]
      by_cases h0 : k = 0
      · subst h0; simp
      · rw [if_neg h0, if_neg (fun e => by have := congrArg List.length e; rw [List.length_take, List.length_nil] at this; omega)])
    have HSN := Lib.hid (And.intro hsn (show ∀ k, k = 0 → saysR (ps.take k) = [] from fun k h => by subst h; simp [saysR]))
    clear hsn
    go_enter Tryd.func35, Tryd.ntmps35
    go_wp2
    go_loop [3, 4, 5, 9] (fun u4 _ _ i => ∃ k : Nat, k ≤ ps.length ∧ i = .int .i64 k ∧ ∃ acc : List UInt8, u4 = .string ⟨acc.toArray⟩ ∧ acc.length ≤ 4398046511104 ∧ Hid (acc = saysR (ps.take k))) (fun _ _ _ i => ps.length - (intOf i).toNat)
    case atStart => exact ⟨0, Nat.zero_le _, rfl, [], rfl, Nat.zero_le _, Lib.hid rfl⟩
    case round =>
      obtain ⟨k, hk, rfl, acc, rfl, hal, hacc⟩ := hrel
      by_cases hlt : k < ps.length
      · obtain ⟨s, hs⟩ : ∃ s, s = ps[k] := ⟨_, rfl⟩
        have hcell := HX.out.1 k s (by rw [hs]; exact List.getElem?_eq_getElem hlt)
        have hsn := HSN.out.1 k hlt
        have hle := HX.out.2 (k + 1)
        rw [← hs, ← hacc.out] at hsn
        rw [hsn] at hle
        by_cases h0 : k = 0
        · have ha0 : acc = [] := hacc.out.trans (HSN.out.2 k h0)
          subst h0
          subst ha0
          rw [if_pos rfl, List.nil_append] at hsn hle
          rw [Nat.add_zero] at hcell
          have HS := Lib.hid hsn
          clear hs hsn
          go_wp2
          go_round
          case rel => exact ⟨1, by omega, by go_num, _, rfl, hle, Lib.hid (by rw [HS.out])⟩
          case measure => simp [intOf]; omega
        · rw [if_neg h0] at hsn hle
          have HS := Lib.hid hsn
          have hsl : acc.length + 1 + s.length ≤ 4398046511104 := by simp only [List.length_append, List.length_cons, List.length_nil] at hle; omega
          have hkp : (0 : Int) < (k : Int) := by omega
          clear hs hsn hle
          go_wp2
          go_round
          case rel => exact ⟨k + 1, by omega, by go_num, _, rfl, by simp; omega, Lib.hid (by rw [HS.out]; simp)⟩
          case measure => simp [intOf]; omega
      · have hfin := hacc.out
        rw [List.take_of_length_le (by omega)] at hfin
        have HF := Lib.hid hfin
        clear hfin
        go_wp2
        go_ret
        exact ⟨ret_str HF.out, (Below.refl _ _).alloc (Nat.le_refl _) _⟩
end Go.Proofs.YteiiocibldpioaaDoor
