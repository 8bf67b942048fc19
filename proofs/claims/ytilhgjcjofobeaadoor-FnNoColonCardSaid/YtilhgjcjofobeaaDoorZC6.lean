/- The walks of the reference's long lines: the bounds, Well, Text, Says. | Arguments that are slices of fields, opened. | The contracts of the functions on one byte: spec.within, spec.FieldByte, spec.ValueByte, validHeaderFieldByte, validHeaderValueByte, isASCIISpace. No conditions but that a byte is a byte. | The plain law of a key's canonical form: no program. fix: what becomes of one byte; upAt: whether a capital is wanted at a place; canonL: the key in canonical form. | The contracts of spec.Key, spec.Canon, canonicalMIMEHeaderKey and CanonicalMIMEHeaderKey. | The walks of the bounds and of the reference's Fields and FieldsText. -/
import Derived.Test.YtilhgjcjofobeaaDoorZC1
import Derived.Test.YtilhgjcjofobeaaDoorZC5
import Derived.Test.YtilhgjcjofobeaaDoorRows
import Derived.Deep.LoopGhost
import Derived.Deep.RegionHeld3
namespace Go.Proofs.YtilhgjcjofobeaaDoor
open Go.RowKit

def fits2 (L : LongR) : Bool := (decide (L.ps.length ≤ 2147483647) && allLe 2147483647 L.ps) && decide (L.bl.length ≤ 2147483647)
set_option maxRecDepth 200000 in
theorem zzFits2_any (L : LongR) (hL : L.len) (B : Option Addr) (c : Nat) (w : World) (hs : SL w B L.ps) :
    Calls Tryd.prog 29 #[.agg #[.slice B L.ps.length c, .string ⟨L.bl.toArray⟩, .bool L.feed]] w fun e w' => e = .returned (.bool (fits2 L)) ∧ Below w.heap.size w w' := by
  obtain ⟨ps, bl, feed⟩ := L
  obtain ⟨h1, h2, h3⟩ := hL
  obtain ⟨f, hf⟩ : ∃ f, f = (decide (ps.length ≤ 2147483647) && allLe 2147483647 ps) := ⟨_, rfl⟩
  have hz := zzFits3_any (c := c) (hs.below ((Below.refl _ w).alloc (Nat.le_refl _) (.cells #[.slice B ps.length c, .string ⟨bl.toArray⟩, .bool feed] 36))) rfl h1 h2
  show Calls Tryd.prog 29 #[.agg #[.slice B ps.length c, .string ⟨bl.toArray⟩, .bool feed]] w fun e w' => e = .returned (.bool ((decide (ps.length ≤ 2147483647) && allLe 2147483647 ps) && decide (bl.length ≤ 2147483647))) ∧ Below w.heap.size w w'
  rw [← hf] at hz ⊢
  have HZ := Lib.hid hz
  have h3 : bl.length ≤ 9223372036854775807 := h3
  clear hz hf h1 hs
  by_cases hb : bl.length ≤ 2147483647
  · cases f
    all_goals
      go_enter Tryd.func29, Tryd.ntmps29
      go_wp2_with (go_at_call 41; refine HZ.out.mono ?_; rintro e w' ⟨rfl, rfl⟩)
      go_ret
      exact ⟨ret_bool (by simp [hb]), (Below.refl _ _).alloc (Nat.le_refl _) _⟩
  · cases f
    all_goals
      go_enter Tryd.func29, Tryd.ntmps29
      go_wp2_with (go_at_call 41; refine HZ.out.mono ?_; rintro e w' ⟨rfl, rfl⟩)
      go_ret
      exact ⟨ret_bool (by simp [hb]), (Below.refl _ _).alloc (Nat.le_refl _) _⟩
/-- A piece will do among n. -/
def pieceB (n : Nat) (p : List UInt8) : Bool := bareB p && !(p.isEmpty && decide (1 < n))
def wellB (L : LongR) : Bool := L.ps.all (pieceB L.ps.length) && (decide (0 < L.ps.length) && blanksB L.bl && (!L.bl.isEmpty || decide (L.ps.length = 1)))
theorem all_snoc {α : Type} (f : α → Bool) (ls : List α) (k : Nat) (h : k < ls.length) : (ls.take (k + 1)).all f = ((ls.take k).all f && f ls[k]) := by
  rw [List.take_succ_eq_append_getElem h, List.all_append]
  simp only [List.all_cons, List.all_nil, Bool.and_true]
theorem all_bad {α : Type} (f : α → Bool) (ls : List α) (k : Nat) (h : k < ls.length) (hc : f ls[k] = false) : ls.all f = false := by
  rw [Bool.eq_false_iff]
  intro h1
  rw [List.all_eq_true.1 h1 ls[k] (List.getElem_mem h)] at hc
  cases hc
set_option maxRecDepth 200000 in
set_option maxHeartbeats 1600000 in
theorem well_any (L : LongR) (hL : L.len) (B : Option Addr) (c : Nat) (w : World) (hs : SL w B L.ps) :
    Calls Tryd.prog 14 #[.agg #[.slice B L.ps.length c, .string ⟨L.bl.toArray⟩, .bool L.feed]] w fun e w' => e = .returned (.bool (wellB L)) ∧ Below w.heap.size w w' := by
  obtain ⟨ps, bl, feed⟩ := L
  obtain ⟨h1, h2, h3⟩ := hL
  have h1 : ∀ l ∈ ps, l.length ≤ 9223372036854775807 := h1
  have h2 : ps.length ≤ 9223372036854775807 := h2
  have h3 : bl.length ≤ 9223372036854775807 := h3
  show Calls Tryd.prog 14 #[.agg #[.slice B ps.length c, .string ⟨bl.toArray⟩, .bool feed]] w fun e w' => e = .returned (.bool (ps.all (pieceB ps.length) && (decide (0 < ps.length) && blanksB bl && (!bl.isEmpty || decide (ps.length = 1))))) ∧ Below w.heap.size w w'
  have hs2 := hs.below ((Below.refl _ w).alloc (Nat.le_refl _) (.cells #[.slice B ps.length c, .string ⟨bl.toArray⟩, .bool feed] 36))
  have hbk := fun w => blanks_any bl h3 w
  obtain ⟨bk, hbke⟩ : ∃ bk, bk = blanksB bl := ⟨_, rfl⟩
  rw [← hbke] at hbk ⊢
  by_cases hne : ps = []
  · subst hne
    clear hbk hs2 hs h1
    go_enter Tryd.func14, Tryd.ntmps14
    go_wp2
    go_loop [8] (fun i => i = .int .i64 0) (fun _ => 0)
    case atStart => rfl
    case round =>
      subst hrel
      go_wp2
      go_ret
      exact ⟨rfl, (Below.refl _ _).alloc (Nat.le_refl _) _⟩
  · obtain ⟨g, o, rfl, hx⟩ := hs2 hne
    have HX := Lib.hid (And.intro hx (And.intro h1 hbk))
    have hpos : 0 < ps.length := List.length_pos_iff.2 hne
    clear hx h1 hbk hs hs2 hbke
    go_enter Tryd.func14, Tryd.ntmps14
    go_wp2
    go_loop [4, 8] (fun _ i => ∃ k : Nat, k ≤ ps.length ∧ i = .int .i64 k ∧ Hid ((ps.take k).all (pieceB ps.length) = true)) (fun _ i => ps.length - (intOf i).toNat)
    case atStart => exact ⟨0, Nat.zero_le _, rfl, Lib.hid rfl⟩
    case round =>
      obtain ⟨k, hk, rfl, hcl⟩ := hrel
      by_cases hlt : k < ps.length
      · obtain ⟨s, hs⟩ : ∃ s, s = ps[k] := ⟨_, rfl⟩
        have hcell := HX.out.1 k s (by rw [hs]; exact List.getElem?_eq_getElem hlt)
        have hsl : s.length ≤ 9223372036854775807 := by rw [hs]; exact HX.out.2.1 _ (List.getElem_mem hlt)
        have hbr := fun w => bare_any s hsl w
        have hgo : pieceB ps.length s = true → (ps.take (k + 1)).all (pieceB ps.length) = true := fun h => by rw [all_snoc _ ps k hlt, hcl.out, ← hs, h]; rfl
        have hno : pieceB ps.length s = false → ps.all (pieceB ps.length) = false := fun h => all_bad _ ps k hlt (by rw [← hs]; exact h)
        have HG := Lib.hid (And.intro hgo hno)
        have hpe : pieceB ps.length s = (bareB s && !(s.isEmpty && decide (1 < ps.length))) := rfl
        obtain ⟨br, hbre⟩ : ∃ br, br = bareB s := ⟨_, rfl⟩
        rw [← hbre] at hbr hpe
        have HB := Lib.hid (And.intro hbr hpe)
        clear hs hgo hno hbr hpe hbre
        cases br
        · go_wp2_with (go_at_call 7; refine (HB.out.1 _).mono ?_; rintro e w' ⟨rfl, rfl⟩)
          go_ret
          exact ⟨ret_bool (by rw [HG.out.2 HB.out.2]; rfl), (Below.refl _ _).alloc (Nat.le_refl _) _⟩
        · rcases s with _ | ⟨a, t⟩
          · by_cases h1n : 1 < ps.length
            · have h1i : (1 : Int) < (ps.length : Int) := by omega
              go_wp2_with (go_at_call 7; refine (HB.out.1 _).mono ?_; rintro e w' ⟨rfl, rfl⟩)
              go_ret
              exact ⟨ret_bool (by rw [HG.out.2 (by rw [HB.out.2]; simp [h1n])]; rfl), (Below.refl _ _).alloc (Nat.le_refl _) _⟩
            · have h1i : ¬ (1 : Int) < (ps.length : Int) := by omega
              go_wp2_with (go_at_call 7; refine (HB.out.1 _).mono ?_; rintro e w' ⟨rfl, rfl⟩)
              go_round
              case rel => exact ⟨k + 1, by omega, by go_num, Lib.hid (HG.out.1 (by rw [HB.out.2]; simp [h1n]))⟩
              case measure => simp [intOf]; omega
          · go_wp2_with (go_at_call 7; refine (HB.out.1 _).mono ?_; rintro e w' ⟨rfl, rfl⟩)
            go_round
            case rel => exact ⟨k + 1, by omega, by go_num, Lib.hid (HG.out.1 (by rw [HB.out.2]; simp))⟩
            case measure => simp [intOf]; omega
      · have hall := hcl.out
        rw [List.take_of_length_le (by omega)] at hall
        have HA := Lib.hid hall
        clear hall
        have hpi : (0 : Int) < (ps.length : Int) := by omega
        cases bk
        · go_wp2_with (go_at_call 31; refine (HX.out.2.2 _).mono ?_; rintro e w' ⟨rfl, rfl⟩)
          go_ret
          exact ⟨ret_bool (by rw [HA.out]; simp), (Below.refl _ _).alloc (Nat.le_refl _) _⟩
        · rcases bl with _ | ⟨a, t⟩
          · by_cases h1n : ps.length = 1
            · have h1i : ((ps.length : Int) == 1) = true := by rw [h1n]; rfl
              go_wp2_with (go_at_call 31; refine (HX.out.2.2 _).mono ?_; rintro e w' ⟨rfl, rfl⟩)
              go_ret
              exact ⟨ret_bool (by rw [HA.out]; simp [h1n]), (Below.refl _ _).alloc (Nat.le_refl _) _⟩
            · have h1i : ((ps.length : Int) == 1) = false := by rw [beq_eq_false_iff_ne]; omega
              go_wp2_with (go_at_call 31; refine (HX.out.2.2 _).mono ?_; rintro e w' ⟨rfl, rfl⟩)
              go_ret
              exact ⟨ret_bool (by rw [HA.out]; simp [h1n]), (Below.refl _ _).alloc (Nat.le_refl _) _⟩
          · go_wp2_with (go_at_call 31; refine (HX.out.2.2 _).mono ?_; rintro e w' ⟨rfl, rfl⟩)
            go_ret
            exact ⟨ret_bool (by rw [HA.out]; simp; omega), (Below.refl _ _).alloc (Nat.le_refl _) _⟩
/-- The text of pieces. -/
def textR (bl : List UInt8) (feed : Bool) : List (List UInt8) → List UInt8
  | [] => []
  | p :: r => p ++ (eol feed ++ moreText bl feed r)
def saysR : List (List UInt8) → List UInt8
  | [] => []
  | p :: r => p ++ moreSays r
theorem textR_snoc (bl : List UInt8) (feed : Bool) (ps : List (List UInt8)) (p : List UInt8) : textR bl feed (ps ++ [p]) = (if ps = [] then [] else textR bl feed ps ++ bl) ++ (p ++ eol feed) := by
  cases ps with
  | nil => simp [textR, moreText]
  | cons q r => simp [textR, moreText]
theorem saysR_snoc (ps : List (List UInt8)) (p : List UInt8) : saysR (ps ++ [p]) = (if ps = [] then [] else saysR ps ++ [32]) ++ p := by
  cases ps with
  | nil => simp [saysR, moreSays]
  | cons q r => simp [saysR, moreSays]
theorem textR_take_le (bl : List UInt8) (feed : Bool) (ps : List (List UInt8)) (k : Nat) : (textR bl feed (ps.take k)).length ≤ (textR bl feed ps).length := by
  cases ps with
  | nil => simp
  | cons p r =>
    cases k with
    | zero => simp [textR]
    | succ k =>
      have h : (moreText bl feed (r.take k)).length ≤ (moreText bl feed r).length := by
        have h2 : moreText bl feed r = moreText bl feed (r.take k) ++ moreText bl feed (r.drop k) := by
          unfold moreText
          rw [← List.flatMap_append, List.take_append_drop]
        rw [h2, List.length_append]
        omega
      simp only [List.take_succ_cons, textR, List.length_append]
      omega
theorem saysR_take_le (ps : List (List UInt8)) (k : Nat) : (saysR (ps.take k)).length ≤ (saysR ps).length := by
  cases ps with
  | nil => simp
  | cons p r =>
    cases k with
    | zero => simp [saysR]
    | succ k =>
      have h : (moreSays (r.take k)).length ≤ (moreSays r).length := by
        have h2 : moreSays r = moreSays (r.take k) ++ moreSays (r.drop k) := by
          unfold moreSays
          rw [← List.flatMap_append, List.take_append_drop]
        rw [h2, List.length_append]
        omega
      simp only [List.take_succ_cons, saysR, List.length_append]
      omega
set_option maxRecDepth 200000 in
set_option maxHeartbeats 1600000 in
theorem longText_any (L : LongR) (B : Option Addr) (c : Nat) (w : World) (hs : SL w B L.ps) (hN : (textR L.bl L.feed L.ps).length ≤ 4398046511104) (hn : L.ps.length ≤ 9223372036854775807) :
    Calls Tryd.prog 15 #[.agg #[.slice B L.ps.length c, .string ⟨L.bl.toArray⟩, .bool L.feed]] w fun e w' => e = .returned (.string ⟨(textR L.bl L.feed L.ps).toArray⟩) ∧ Below w.heap.size w w' := by
  obtain ⟨ps, bl, feed⟩ := L
  have hN : (textR bl feed ps).length ≤ 4398046511104 := hN
  have hn : ps.length ≤ 9223372036854775807 := hn
  show Calls Tryd.prog 15 #[.agg #[.slice B ps.length c, .string ⟨bl.toArray⟩, .bool feed]] w fun e w' => e = .returned (.string ⟨(textR bl feed ps).toArray⟩) ∧ Below w.heap.size w w'
  have hs2 := hs.below ((Below.refl _ w).alloc (Nat.le_refl _) (.cells #[.slice B ps.length c, .string ⟨bl.toArray⟩, .bool feed] 36))
  by_cases hne : ps = []
  · subst hne
    clear hs2 hs
    cases feed
    all_goals
      go_enter Tryd.func15, Tryd.ntmps15
      go_wp2
      go_loop [4, 12] (fun u i => i = .int .i64 0 ∧ u = .string ⟨#[]⟩) (fun _ _ => 0)
      case atStart => exact ⟨rfl, rfl⟩
      case round =>
        obtain ⟨rfl, rfl⟩ := hrel
        go_wp2
        go_ret
        exact ⟨rfl, (Below.refl _ _).alloc (Nat.le_refl _) _⟩
  · obtain ⟨g, o, rfl, hx⟩ := hs2 hne
    have HX := Lib.hid (And.intro hx (show ∀ k, (textR bl feed (ps.take k)).length ≤ 4398046511104 from fun k => Nat.le_trans (textR_take_le bl feed ps k) hN))
    clear hx hs hs2 hN
    obtain ⟨en, hen⟩ : ∃ en, en = eol feed := ⟨_, rfl⟩
    have hsn := fun (k : Nat) (hk : k < ps.length) => (show textR bl feed (ps.take (k + 1)) = (if k = 0 then [] else textR bl feed (ps.take k) ++ bl) ++ (ps[k] ++ en) by
      rw [List.take_succ_eq_append_getElem hk, textR_snoc, hen]
      by_cases h0 : k = 0
      · subst h0; simp
      · rw [if_neg h0, if_neg (fun e => by have := congrArg List.length e; rw [List.length_take, List.length_nil] at this; omega)])
    have HSN := Lib.hid (And.intro hsn (show ∀ k, k = 0 → textR bl feed (ps.take k) = [] from fun k h => by subst h; simp [textR]))
    clear hsn
    cases feed
    all_goals
      go_enter Tryd.func15, Tryd.ntmps15
      go_wp2
      go_loop [4, 5, 6, 12] (fun u4 _ _ i => ∃ k : Nat, k ≤ ps.length ∧ i = .int .i64 k ∧ ∃ acc : List UInt8, u4 = .string ⟨acc.toArray⟩ ∧ acc.length ≤ 4398046511104 ∧ Hid (acc = textR bl _ (ps.take k))) (fun _ _ _ i => ps.length - (intOf i).toNat)
      case atStart => exact ⟨0, Nat.zero_le _, rfl, [], rfl, Nat.zero_le _, Lib.hid rfl⟩
      case round =>
        obtain ⟨k, hk, rfl, acc, rfl, hal, hacc⟩ := hrel
        by_cases hlt : k < ps.length
        · obtain ⟨s, hs⟩ : ∃ s, s = ps[k] := ⟨_, rfl⟩
          have hcell := HX.out.1 k s (by rw [hs]; exact List.getElem?_eq_getElem hlt)
          have hsn := HSN.out.1 k hlt
          have hle := HX.out.2 (k + 1)
          rw [← hs, ← hacc.out] at hsn
          rw [hsn] at hle
          by_cases h0 : k = 0
          · have ha0 : acc = [] := hacc.out.trans (HSN.out.2 k h0)
            subst h0
            subst ha0
            rw [if_pos rfl, List.nil_append] at hsn hle
            rw [Nat.add_zero] at hcell
            have HS := Lib.hid hsn
            have hsl : s.length + en.length ≤ 4398046511104 := by rw [List.length_append] at hle; omega
            have hsl2 : s.length ≤ 4398046511104 := by omega
            clear hs hsn hle
            go_wp2
            go_round
            case rel => exact ⟨1, by omega, by go_num, _, rfl, by rw [hen] at hsl; simp [eol] at hsl ⊢; omega, Lib.hid (by rw [HS.out, hen]; rfl)⟩
            case measure => simp [intOf]; omega
          · rw [if_neg h0] at hsn hle
            have HS := Lib.hid hsn
            have hsl : acc.length + bl.length + s.length + en.length ≤ 4398046511104 := by simp only [List.length_append] at hle; omega
            have hsl2 : acc.length + bl.length + s.length ≤ 4398046511104 := by omega
            have hkp : (0 : Int) < (k : Int) := by omega
            clear hs hsn hle
            go_wp2
            go_round
            case rel => exact ⟨k + 1, by omega, by go_num, _, rfl, by rw [hen] at hsl; simp [eol] at hsl ⊢; omega, Lib.hid (by rw [HS.out, hen]; simp [eol])⟩
            case measure => simp [intOf]; omega
        · have hfin := hacc.out
          rw [List.take_of_length_le (by omega)] at hfin
          have HF := Lib.hid hfin
          clear hfin
          go_wp2
          go_ret
          exact ⟨ret_str HF.out, (Below.refl _ _).alloc (Nat.le_refl _) _⟩
set_option maxRecDepth 200000 in
set_option maxHeartbeats 1600000 in
theorem longSays_any (L : LongR) (B : Option Addr) (c : Nat) (w : World) (hs : SL w B L.ps) (hN : (saysR L.ps).length ≤ 4398046511104) (hn : L.ps.length ≤ 9223372036854775807) :
    Calls Tryd.prog 28 #[.agg #[.slice B L.ps.length c, .string ⟨L.bl.toArray⟩, .bool L.feed]] w fun e w' => e = .returned (.string ⟨(saysR L.ps).toArray⟩) ∧ Below w.heap.size w w' := by
  obtain ⟨ps, bl, feed⟩ := L
  have hN : (saysR ps).length ≤ 4398046511104 := hN
  have hn : ps.length ≤ 9223372036854775807 := hn
  show Calls Tryd.prog 28 #[.agg #[.slice B ps.length c, .string ⟨bl.toArray⟩, .bool feed]] w fun e w' => e = .returned (.string ⟨(saysR ps).toArray⟩) ∧ Below w.heap.size w w'
  have hs2 := hs.below ((Below.refl _ w).alloc (Nat.le_refl _) (.cells #[.slice B ps.length c, .string ⟨bl.toArray⟩, .bool feed] 36))
  by_cases hne : ps = []
  · subst hne
    clear hs2 hs
    go_enter Tryd.func28, Tryd.ntmps28
    go_wp2
    go_loop [3, 9] (fun u i => i = .int .i64 0 ∧ u = .string ⟨#[]⟩) (fun _ _ => 0)
    case atStart => exact ⟨rfl, rfl⟩
    case round =>
      obtain ⟨rfl, rfl⟩ := hrel
      go_wp2
      go_ret
      exact ⟨rfl, (Below.refl _ _).alloc (Nat.le_refl _) _⟩
  · obtain ⟨g, o, rfl, hx⟩ := hs2 hne
    have HX := Lib.hid (And.intro hx (show ∀ k, (saysR (ps.take k)).length ≤ 4398046511104 from fun k => Nat.le_trans (saysR_take_le ps k) hN))
    clear hx hs hs2 hN
    have hsn := fun (k : Nat) (hk : k < ps.length) => (show saysR (ps.take (k + 1)) = (if k = 0 then [] else saysR (ps.take k) ++ [32]) ++ ps[k] by
      rw [List.take_succ_eq_append_getElem hk, saysR_snoc]
      by_cases h0 : k = 0
      · subst h0; simp
      · rw [if_neg h0, if_neg (fun e => by have := congrArg List.length e; rw [List.length_take, List.length_nil] at this; omega)])
    have HSN := Lib.hid (And.intro hsn (show ∀ k, k = 0 → saysR (ps.take k) = [] from fun k h => by subst h; simp [saysR]))
    clear hsn
    go_enter Tryd.func28, Tryd.ntmps28
    go_wp2
    go_loop [3, 4, 5, 9] (fun u4 _ _ i => ∃ k : Nat, k ≤ ps.length ∧ i = .int .i64 k ∧ ∃ acc : List UInt8, u4 = .string ⟨acc.toArray⟩ ∧ acc.length ≤ 4398046511104 ∧ Hid (acc = saysR (ps.take k))) (fun _ _ _ i => ps.length - (intOf i).toNat)
    case atStart => exact ⟨0, Nat.zero_le _, rfl, [], rfl, Nat.zero_le _, Lib.hid rfl⟩
    case round =>
      obtain ⟨k, hk, rfl, acc, rfl, hal, hacc⟩ := hrel
      by_cases hlt : k < ps.length
      · obtain ⟨s, hs⟩ : ∃ s, s = ps[k] := ⟨_, rfl⟩
        have hcell := HX.out.1 k s (by rw [hs]; exact List.getElem?_eq_getElem hlt)
        have hsn := HSN.out.1 k hlt
        have hle := HX.out.2 (k + 1)
        rw [← hs, ← hacc.out] at hsn
        rw [hsn] at hle
        by_cases h0 : k = 0
        · have ha0 : acc = [] := hacc.out.trans (HSN.out.2 k h0)
          subst h0
          subst ha0
          rw [if_pos rfl, List.nil_append] at hsn hle
          rw [Nat.add_zero] at hcell
          have HS := Lib.hid hsn
          clear hs hsn
          go_wp2
          go_round
          case rel => exact ⟨1, by omega, by go_num, _, rfl, hle, Lib.hid (by rw [HS.out])⟩
          case measure => simp [intOf]; omega
        · rw [if_neg h0] at hsn hle
          have HS := Lib.hid hsn
          have hsl : acc.length + 1 + s.length ≤ 4398046511104 := by simp only [List.length_append, List.length_cons, List.length_nil] at hle; omega
          have hkp : (0 : Int) < (k : Int) := by omega
          clear hs hsn hle
          go_wp2
          go_round
          case rel => exact ⟨k + 1, by omega, by go_num, _, rfl, by simp; omega, Lib.hid (by rw [HS.out]; simp)⟩
          case measure => simp [intOf]; omega
      · have hfin := hacc.out
        rw [List.take_of_length_le (by omega)] at hfin
        have HF := Lib.hid hfin
        clear hfin
        go_wp2
        go_ret
        exact ⟨ret_str HF.out, (Below.refl _ _).alloc (Nat.le_refl _) _⟩
end Go.Proofs.YtilhgjcjofobeaaDoor
namespace Go.Proofs.YtilhgjcjofobeaaDoor
open Go.ChangeShapes Go.WideShapes Go.ChangeAt Go.RowKit

/-- A field as it lies in memory. -/
structure FieldR where
  key : List UInt8
  val : LongR
def FieldR.wt (F : FieldR) : Nat := F.key.length + F.val.wt + 2
def FieldR.len (F : FieldR) : Prop := F.key.length ≤ 9223372036854775807 ∧ F.val.len
/-- A field at a place. -/
def FieldAt (w : World) (g o : Nat) (F : FieldR) : Prop := w.cell? ⟨g, o, none⟩ = some (.string ⟨F.key.toArray⟩) ∧ LongAt w g (o + 1) F.val
theorem FieldAt.below {w w' : World} {g o : Nat} {F : FieldR} (h : FieldAt w g o F) (hb : Below w.heap.size w w') : FieldAt w' g o F :=
  ⟨(hb.cell (p := ⟨g, o, none⟩) (World.block_lt_of_cell? _ _ h.1)).trans h.1, h.2.below hb⟩
/-- A slice's address under which fields lie. -/
def FL (w : World) (A : Option Addr) (Fs : List FieldR) : Prop :=
  Fs ≠ [] → ∃ g o, A = some ⟨g, o, none⟩ ∧ ∀ i F, Fs[i]? = some F → FieldAt w g (o + i * 4) F
theorem FL.nil (w : World) (A : Option Addr) : FL w A [] := fun h => absurd rfl h
theorem FL.below {w w' : World} {A : Option Addr} {Fs : List FieldR} (h : FL w A Fs) (hb : Below w.heap.size w w') : FL w' A Fs := by
  intro hne
  obtain ⟨g, o, he, hx⟩ := h hne
  exact ⟨g, o, he, fun i F hF => (hx i F hF).below hb⟩
set_option maxRecDepth 200000 in
/-- Three cells read as a long line. -/
theorem long_ofC {H : Type} {enc : TypeId × Value → H} {W : World} {fuel g o : Nat} {v0 v1 v2 : Value} {x : DataW H × List MemPlace} (e0 : W.cell? ⟨g, o, none⟩ = some v0) (e1 : W.cell? ⟨g, o + 1, none⟩ = some v1) (e2 : W.cell? ⟨g, o + 2, none⟩ = some v2)
    (h : DataW.trod enc Tryd.prog W 0 (fun _ => true) true fuel 36 [v0, v1, v2] = some x) : ∃ L : LongR, LongAt W g o L ∧ L.len ∧ L.wt ≤ Rows.uptoBulk x.1 := by
  obtain ⟨y0, y1, y2, n, rfl, _, t0, t1, t2⟩ := Deep.trod_struct3 Tryd.underlying36 h
  have k1 : Tryd.prog.cellsOf 34 = 1 := by kernel_rfl
  have k2 : Tryd.prog.cellsOf 9 = 1 := by kernel_rfl
  have k3 : Tryd.prog.cellsOf 4 = 1 := by kernel_rfl
  simp only [k1, k2, k3] at t0 t1 t2
  obtain ⟨B, c, ls, rfl, hs, hl, hm, hw⟩ := strings_ofT (by simpa using t0)
  obtain ⟨bl, rfl, hbl, hbw⟩ := string_ofT (by simpa using t1)
  obtain ⟨f, rfl⟩ := bool_ofT Tryd.underlying4 (by simpa using t2)
  refine ⟨⟨ls, bl, f⟩, ⟨B, c, e0, e1, e2, hs⟩, ⟨hl, hm, hbl⟩, ?_⟩
  show wtS ls + bl.length + 1 ≤ _
  rw [bulk_agg3]
  omega
set_option maxRecDepth 200000 in
/-- Four cells read as a field. -/
theorem field_ofT {H : Type} {enc : TypeId × Value → H} {W : World} {fuel g o : Nat} {cs : List Value} {x : DataW H × List MemPlace} (hc : W.cells? 0 ⟨g, o, none⟩ 4 = some cs) (h : DataW.trod enc Tryd.prog W 0 (fun _ => true) true fuel 38 cs = some x) :
    ∃ F : FieldR, FieldAt W g o F ∧ F.len ∧ F.wt ≤ Rows.uptoBulk x.1 := by
  obtain ⟨_, hlen, hcell⟩ := World.cells?_some hc
  obtain ⟨y0, y1, n, rfl, _, t0, t1⟩ := Go.ChangeShapes.trod_struct2 Tryd.underlying38 h
  match cs, hlen with
  | [v0, v1, v2, v3], _ =>
    have k1 : Tryd.prog.cellsOf 9 = 1 := by kernel_rfl
    have k2 : Tryd.prog.cellsOf 36 = 3 := by kernel_rfl
    have e0 := hcell 0 (by omega)
    have e1 := hcell 1 (by omega)
    have e2 := hcell 2 (by omega)
    have e3 := hcell 3 (by omega)
    rw [add_addL] at e0 e1 e2 e3
    simp only [k1, k2] at t0 t1
    obtain ⟨key, rfl, hk, hkw⟩ := string_ofT (by simpa using t0)
    obtain ⟨L, hL, hLl, hLw⟩ := long_ofC (W := W) (g := g) (o := o + 1) (by simpa using e1) (by simpa using e2) (by simpa using e3) (by simpa using t1)
    refine ⟨⟨key, L⟩, ⟨by simpa using e0, hL⟩, ⟨hk, hLl⟩, ?_⟩
    show key.length + L.wt + 2 ≤ _
    rw [bulk_agg2]
    omega
set_option maxRecDepth 200000 in
/-- A slice of fields that came in. -/
theorem open_fieldsV {H : Type} {enc : TypeId × Value → H} {W : World} {b0 : Nat} {v : Value} {d : DataW H} {p : List MemPlace} (hval : Value.okWide Tryd.prog W .any b0 22 v) (hd : DataW.Trod enc Tryd.prog W 0 (fun _ => true) true 22 v d p) :
    ∃ (A : Option Addr) (n c : Nat) (Fs : List FieldR), v = .slice A n c ∧ n = Fs.length ∧ FL W A Fs ∧ (∀ F ∈ Fs, F.len) ∧ Fs.length ≤ 9223372036854775807 ∧ (Fs.map FieldR.wt).sum ≤ Rows.uptoBulk d := by
  obtain ⟨A, n, c, rfl⟩ := okWide_slice Tryd.underlying22 hval
  obtain ⟨fuel, hf⟩ := hd
  have hc : Tryd.prog.cellsOf 38 = 4 := by kernel_rfl
  rcases Deep.open_slice Tryd.underlying22 hf with ⟨h, _⟩ | ⟨a, len, cap, m, fu, D, Pl, h, _, hl, hm, hmm, hxd, hx⟩
  · simp [Value.cells] at h
    obtain ⟨rfl, rfl, rfl⟩ := h
    exact ⟨none, 0, 0, [], rfl, rfl, FL.nil _ _, fun _ h => (by cases h), by decide, by simp⟩
  · simp [Value.cells] at h
    obtain ⟨rfl, rfl, rfl⟩ := h
    simp only [if_true] at hmm
    rw [hc] at hx
    simp only [Prod.mk.injEq] at hxd
    obtain ⟨rfl, _⟩ := hxd
    unfold maxLen at hm
    obtain ⟨g, off, spot⟩ := a
    by_cases hn0 : n = 0
    · subst hn0
      exact ⟨some ⟨g, off, spot⟩, 0, c, [], rfl, rfl, FL.nil _ _, fun _ h => (by cases h), by decide, by simp⟩
    · have hspot : spot = none := by
        obtain ⟨cs', h1, _⟩ := hx 0 (by omega)
        obtain ⟨_, hlen, hcell⟩ := World.cells?_some h1
        have := hcell 0 (by omega)
        have e : cs'[0]? = some (cs'[0]'(by omega)) := List.getElem?_eq_getElem _
        rw [e] at this
        simpa [Addr.add] using World.cell?_spot this
      subst hspot
      have each : ∀ i, i < n → ∃ F : FieldR, FieldAt W g (off + i * 4) F ∧ F.len ∧ F.wt ≤ Rows.uptoBulk (D i) := fun i hi => by
        obtain ⟨cs', h1, h2⟩ := hx i (by omega)
        rw [add_addL] at h1
        exact field_ofT h1 h2
      have : Inhabited FieldR := ⟨⟨[], ⟨[], [], false⟩⟩⟩
      obtain ⟨y, hy⟩ := Deep.choose_lt each
      refine ⟨some ⟨g, off, none⟩, n, c, (List.range n).map y, rfl, by simp, fun _ => ⟨g, off, rfl, fun i F hF => ?_⟩, fun F hF => ?_, by simp; omega, ?_⟩
      · have hi : i < n := by
          rcases Nat.lt_or_ge i n with h' | h'
          · exact h'
          · rw [List.getElem?_eq_none (by simpa using h')] at hF; cases hF
        rw [List.getElem?_map, List.getElem?_range hi] at hF
        injection hF with hF
        subst hF
        exact (hy i hi).1
      · obtain ⟨i, hi, rfl⟩ := List.mem_map.1 hF
        exact (hy i (by simpa using hi)).2.1
      · refine Nat.le_trans ?_ (bulk_slice _ _)
        rw [List.map_map]
        exact bulk_range _ _ n (fun i hi => (hy i hi).2.2)
theorem wtS_le (ps : List (List UInt8)) : ps.length ≤ wtS ps ∧ ∀ l ∈ ps, l.length ≤ wtS ps := by
  induction ps with
  | nil => exact ⟨Nat.le_refl _, fun _ h => by cases h⟩
  | cons p r ih =>
    have e : wtS (p :: r) = p.length + 1 + wtS r := by simp [wtS]
    refine ⟨by rw [e, List.length_cons]; omega, fun l hl => ?_⟩
    rcases List.mem_cons.1 hl with rfl | hl
    · omega
    · have := ih.2 l hl; omega
/-- Each weighs no more than all. -/
theorem fwt_le (Fs : List FieldR) (m : Nat) (h : (Fs.map FieldR.wt).sum ≤ m) : Fs.length ≤ m ∧ ∀ F ∈ Fs, F.key.length ≤ m ∧ F.val.wt ≤ m := by
  induction Fs generalizing m with
  | nil => exact ⟨Nat.zero_le _, fun _ h => by cases h⟩
  | cons F r ih =>
    simp only [List.map_cons, List.sum_cons] at h
    have hw : F.key.length + F.val.wt + 2 = F.wt := rfl
    obtain ⟨h1, h2⟩ := ih (m - F.wt) (by omega)
    refine ⟨by simp only [List.length_cons]; omega, fun x hx => ?_⟩
    rcases List.mem_cons.1 hx with rfl | hx
    · omega
    · have := h2 x hx; omega
end Go.Proofs.YtilhgjcjofobeaaDoor
namespace Go.Proofs.YtilhgjcjofobeaaDoor
open Go.RowKit

/-- spec.within as a plain test. -/
def withinB (l : List UInt8) (n : Int) : Bool := l.any (fun b => (b.toNat : Int) == n)

theorem withinB_nil (n : Int) : withinB [] n = false := rfl
theorem withinB_snoc (l : List UInt8) (b : UInt8) (n : Int) : withinB (l ++ [b]) n = (withinB l n || ((b.toNat : Int) == n)) := by
  unfold withinB; simp
theorem withinB_hit (l : List UInt8) (k : Nat) (h : k < l.length) (n : Int) (e : (l[k].toNat : Int) = n) : withinB l n = true := by
  unfold withinB
  rw [List.any_eq_true]
  exact ⟨l[k], List.getElem_mem _, by simpa using e⟩

set_option maxHeartbeats 400000 in
theorem within_any (l : List UInt8) (n : Int) (_h0 : 0 ≤ n) (_h1 : n ≤ 255) (hs : l.length ≤ 9223372036854775807) (w : World) :
    Calls Tryd.prog 42 #[.string ⟨l.toArray⟩, .int .u8 n] w fun e w' => e = .returned (.bool (withinB l n)) ∧ w = w' := by
  go_enter Tryd.func42, Tryd.ntmps42
  go_wp2
  go_loop [5] (fun i => ∃ k : Nat, k ≤ l.length ∧ i = .int .i64 k ∧ withinB (l.take k) n = false) (fun i => l.length - (intOf i).toNat)
  case atStart => exact ⟨0, Nat.zero_le _, rfl, rfl⟩
  case round =>
    obtain ⟨k, hk, rfl, hno⟩ := hrel
    have HN := Lib.hid hno
    clear hno
    by_cases hlt : k < l.length
    · by_cases hc : (l[k].toNat : Int) = n
      · go_wp2
        go_ret
        exact ⟨ret_bool (withinB_hit l k hlt n hc).symm, rfl⟩
      · go_wp2
        go_round
        case rel => exact ⟨k + 1, by omega, by go_num, by rw [List.take_succ_eq_append_getElem hlt, withinB_snoc, HN.out]; simpa using hc⟩
        case measure => simp [intOf]; omega
    · go_wp2
      go_ret
      exact ⟨ret_bool (by
        have h := HN.out
        rw [List.take_of_length_le (by omega)] at h
        exact h.symm), rfl⟩

/-- validHeaderValueByte, as it reckons. -/
def valueMask (n : Int) : Bool :=
  bits BinOp.or IntKind.u64 (bits BinOp.andNot IntKind.u64 (IntKind.u64.wrap (2 ^ min n.toNat 64)) 18446744069414584832)
    (bits BinOp.andNot IntKind.u64 (IntKind.u64.wrap (2 ^ min ((n - 64) % 256).toNat 64)) 9223372036854775807) == 0
/-- validHeaderFieldByte, as it reckons. -/
def fieldMask (n : Int) : Bool :=
  bits BinOp.or IntKind.u64 (bits BinOp.and IntKind.u64 (IntKind.u64.wrap (2 ^ min n.toNat 64)) 288068722172624896)
    (bits BinOp.and IntKind.u64 (IntKind.u64.wrap (2 ^ min ((n - 64) % 256).toNat 64)) 6341068274398134270) != 0

/-- A byte of values. -/
def valueB (n : Int) : Bool := decide (32 ≤ n) && !(n == 127) || n == 9
/-- The signs of a token. -/
def signs : List UInt8 := [33, 35, 36, 37, 38, 39, 42, 43, 45, 46, 94, 95, 96, 124, 126]
/-- A byte of keys. -/
def fieldB (n : Int) : Bool :=
  decide (97 ≤ n) && decide (n ≤ 122) || decide (65 ≤ n) && decide (n ≤ 90) || decide (48 ≤ n) && decide (n ≤ 57) || withinB signs n

theorem forall_byte {p : Int → Bool} (h : (List.range 256).all (fun k => p k) = true) (n : Int) (h0 : 0 ≤ n) (h1 : n ≤ 255) : p n = true := by
  obtain ⟨k, rfl⟩ := Int.eq_ofNat_of_zero_le h0
  exact List.all_eq_true.1 h k (List.mem_range.2 (by omega))
theorem valueMask_eq (n : Int) (h0 : 0 ≤ n) (h1 : n ≤ 255) : valueMask n = valueB n := by
  have := forall_byte (p := fun n => valueMask n == valueB n) (by decide +kernel) n h0 h1
  simpa using this
theorem fieldMask_eq (n : Int) (h0 : 0 ≤ n) (h1 : n ≤ 255) : fieldMask n = fieldB n := by
  have := forall_byte (p := fun n => fieldMask n == fieldB n) (by decide +kernel) n h0 h1
  simpa using this

set_option maxHeartbeats 400000 in
theorem validValue_any (n : Int) (h0 : 0 ≤ n) (h1 : n ≤ 255) (w : World) :
    Calls Tryd.prog 51 #[.int .u8 n] w fun e w' => e = .returned (.bool (valueB n)) ∧ w = w' := by
  have h2 : 0 ≤ (n - 64) % 256 := by omega
  go_enter Tryd.func51, Tryd.ntmps51
  go_wp2
  go_ret
  exact ⟨ret_bool (valueMask_eq n h0 h1), rfl⟩

set_option maxHeartbeats 400000 in
theorem validField_any (n : Int) (h0 : 0 ≤ n) (h1 : n ≤ 255) (w : World) :
    Calls Tryd.prog 76 #[.int .u8 n] w fun e w' => e = .returned (.bool (fieldB n)) ∧ w = w' := by
  have h2 : 0 ≤ (n - 64) % 256 := by omega
  go_enter Tryd.func76, Tryd.ntmps76
  go_wp2
  go_ret
  exact ⟨ret_bool (fieldMask_eq n h0 h1), rfl⟩

set_option maxHeartbeats 800000 in
theorem specField_any (n : Int) (h0 : 0 ≤ n) (h1 : n ≤ 255) (w : World) :
    Calls Tryd.prog 30 #[.int .u8 n] w fun e w' => e = .returned (.bool (fieldB n)) ∧ w = w' := by
  go_each [97 ≤ n, n ≤ 122, 65 ≤ n, n ≤ 90, 48 ≤ n, n ≤ 57] => (
    go_enter Tryd.func30, Tryd.ntmps30
    go_wp2_with (go_at_call 42; refine (within_any _ _ h0 h1 (by decide) _).mono ?_; rintro e w' ⟨rfl, rfl⟩)
    go_ret
    exact ⟨ret_bool (by unfold fieldB signs; generalize withinB [33, 35, 36, 37, 38, 39, 42, 43, 45, 46, 94, 95, 96, 124, 126] n = z; rw [Bool.eq_iff_iff]; cases z <;> simp <;> omega), rfl⟩)

end Go.Proofs.YtilhgjcjofobeaaDoor
namespace Go.Proofs.YtilhgjcjofobeaaDoor
open Go.RowKit

def lowB (n : Int) : Bool := decide (97 ≤ n) && decide (n ≤ 122)
def capB (n : Int) : Bool := decide (65 ≤ n) && decide (n ≤ 90)
/-- What a byte becomes. -/
def fixN (up : Bool) (n : Int) : Int := if up && lowB n then n - 32 else if !up && capB n then n + 32 else n
def fix (up : Bool) (b : UInt8) : UInt8 := UInt8.ofNat (fixN up b.toNat).toNat
/-- Is a capital wanted at place k? -/
def upAt (l : List UInt8) (k : Nat) : Bool := k == 0 || l[k - 1]? == some 45
def canonL (l : List UInt8) : List UInt8 := l.mapIdx (fun j b => fix (upAt l j) b)
def keyB (l : List UInt8) : Bool := l.all (fun b => fieldB b.toNat)
/-- The key's canonical form; another text as it stands. -/
def canonOf (l : List UInt8) : List UInt8 := if keyB l then canonL l else l

theorem fixN_lo (up : Bool) (n : Int) (h : 0 ≤ n) : 0 ≤ fixN up n := by
  unfold fixN lowB capB; split
  · rename_i hh; simp at hh; omega
  · split <;> omega
theorem fixN_hi (up : Bool) (n : Int) (h : n ≤ 255) : fixN up n ≤ 255 := by
  unfold fixN lowB capB; split
  · omega
  · split
    · rename_i hh; simp at hh; omega
    · omega
theorem fix_toNat (up : Bool) (b : UInt8) : ((fix up b).toNat : Int) = fixN up b.toNat := by
  have h0 := fixN_lo up b.toNat (by omega)
  have h1 := fixN_hi up b.toNat (byte_le b)
  unfold fix
  rw [UInt8.toNat_ofNat']
  omega
theorem fixN_45 (up : Bool) (n : Int) : fixN up n = 45 ↔ n = 45 := by
  unfold fixN lowB capB; split
  · rename_i hh; simp at hh; omega
  · split
    · rename_i hh; simp at hh; omega
    · omega
theorem fix_45 (up : Bool) (b : UInt8) : ((fix up b).toNat : Int) = 45 ↔ (b.toNat : Int) = 45 := by
  rw [fix_toNat, fixN_45]
theorem byte45 (b : UInt8) : (b.toNat : Int) = 45 ↔ b = 45 := by
  have := byte_eq_iff b 45
  simpa using this

theorem upAt_zero (l : List UInt8) : upAt l 0 = true := by simp [upAt]
theorem upAt_succ (l : List UInt8) (k : Nat) (h : k < l.length) : upAt l (k + 1) = ((l[k].toNat : Int) == 45) := by
  rw [Bool.eq_iff_iff]
  simp [upAt, List.getElem?_eq_getElem h, byte45]
theorem canonL_length (l : List UInt8) : (canonL l).length = l.length := by simp [canonL]
theorem canonL_get (l : List UInt8) (k : Nat) (h : k < l.length) : (canonL l)[k]'(by rw [canonL_length]; exact h) = fix (upAt l k) l[k] := by simp [canonL]
theorem canonL_get? (l : List UInt8) (k : Nat) (h : k < l.length) : (canonL l)[k]? = some (fix (upAt l k) l[k]) := by
  rw [List.getElem?_eq_getElem (by rw [canonL_length]; exact h), canonL_get l k h]
theorem canonL_same {l : List UInt8} (h : ∀ k (hk : k < l.length), fix (upAt l k) l[k] = l[k]) : canonL l = l := by
  apply List.ext_getElem (canonL_length l)
  intro k h1 h2
  rw [canonL_get l k h2, h k h2]
theorem keyB_take_succ (l : List UInt8) (k : Nat) (h : k < l.length) : keyB (l.take (k + 1)) = (keyB (l.take k) && fieldB l[k].toNat) := by
  unfold keyB; rw [List.take_succ_eq_append_getElem h, List.all_append]; simp
theorem keyB_all {l : List UInt8} (k : Nat) (h : k < l.length) (hk : keyB l = true) : fieldB l[k].toNat = true :=
  List.all_eq_true.1 hk _ (List.getElem_mem _)
theorem keyB_no {l : List UInt8} (k : Nat) (h : k < l.length) (hk : fieldB l[k].toNat = false) : keyB l = false := by
  rcases hb : keyB l with _ | _
  · rfl
  · rw [keyB_all k h hb] at hk; cases hk
theorem fieldB_no_32 : fieldB 32 = false := by decide +kernel
theorem fixN_same {up : Bool} {n : Int} (h1 : (up && lowB n) = false) (h2 : (!up && capB n) = false) : fixN up n = n := by
  unfold fixN; rw [h1, h2]; rfl
theorem fix_same {up : Bool} {b : UInt8} (h1 : (up && lowB b.toNat) = false) (h2 : (!up && capB b.toNat) = false) : fix up b = b := by
  apply UInt8.toNat_inj.1
  have := fix_toNat up b
  rw [fixN_same h1 h2] at this
  omega
end Go.Proofs.YtilhgjcjofobeaaDoor
namespace Go.Proofs.YtilhgjcjofobeaaDoor
open Go.RowKit

set_option maxHeartbeats 400000 in
theorem key_any (l : List UInt8) (hl : l.length ≤ 9223372036854775807) (w : World) :
    Calls Tryd.prog 13 #[.string ⟨l.toArray⟩] w fun e w' => e = .returned (.bool (keyB l && !l.isEmpty)) ∧ w = w' := by
  go_enter Tryd.func13, Tryd.ntmps13
  go_wp2
  go_loop [3] (fun i => ∃ k : Nat, k ≤ l.length ∧ i = .int .i64 k ∧ keyB (l.take k) = true) (fun i => l.length - (intOf i).toNat)
  case atStart => exact ⟨0, Nat.zero_le _, rfl, rfl⟩
  case round =>
    obtain ⟨k, hk, rfl, hno⟩ := hrel
    have HN := Lib.hid hno
    clear hno
    by_cases hlt : k < l.length
    · rcases hb : fieldB l[k].toNat with _ | _
      · have HB := Lib.hid hb
        clear hb
        go_wp2_with (go_at_call 30; refine (specField_any l[k].toNat (by omega) (byte_le _) _).mono ?_; rw [HB.out]; rintro e w' ⟨rfl, rfl⟩)
        go_ret
        exact ⟨ret_bool (by rw [keyB_no k hlt HB.out]; rfl), rfl⟩
      · have HB := Lib.hid hb
        clear hb
        go_wp2_with (go_at_call 30; refine (specField_any l[k].toNat (by omega) (byte_le _) _).mono ?_; rw [HB.out]; rintro e w' ⟨rfl, rfl⟩)
        go_round
        case rel => exact ⟨k + 1, by omega, by go_num, by rw [keyB_take_succ l k hlt, HN.out, HB.out]; rfl⟩
        case measure => simp [intOf]; omega
    · go_wp2
      go_ret
      exact ⟨ret_bool (by
        have h := HN.out
        rw [List.take_of_length_le (by omega)] at h
        rw [h]; simp), rfl⟩

/-- The bytes behind k rounds of the loop that makes a key canonical. -/
def mixed (l : List UInt8) (k : Nat) (i : Nat) : Int := if i < k then (fix (upAt l i) (l.getD i 0)).toNat else (l.getD i 0).toNat
theorem mixed_zero (l : List UInt8) (i : Nat) : mixed l 0 i = (l.getD i 0).toNat := by simp [mixed]
theorem mixed_at (l : List UInt8) (k : Nat) (h : k < l.length) : mixed l k k = (l[k].toNat : Int) := by simp [mixed, List.getElem?_eq_getElem h]
theorem mixed_succ_at (l : List UInt8) (k : Nat) (h : k < l.length) : mixed l (k + 1) k = fixN (upAt l k) l[k].toNat := by
  unfold mixed
  rw [if_pos (by omega), fix_toNat]; simp [List.getElem?_eq_getElem h]
theorem mixed_succ_other (l : List UInt8) (k i : Nat) (h : i ≠ k) : mixed l (k + 1) i = mixed l k i := by
  unfold mixed
  by_cases hi : i < k
  · rw [if_pos (by omega), if_pos hi]
  · rw [if_neg (by omega), if_neg hi]
theorem mixed_end (l : List UInt8) (i : Nat) (h : i < l.length) : mixed l l.length i = ((canonL l).getD i 0).toNat := by
  unfold mixed
  rw [if_pos h, List.getD_eq_getElem?_getD, List.getD_eq_getElem?_getD, canonL_get? l i h, List.getElem?_eq_getElem h]
  rfl

theorem canon_keep {w : World} {g o : Nat} {l : List UInt8} {k : Nat} (hr : Row w g o l.length (mixed l k)) (hlt : k < l.length) (h : fixN (upAt l k) l[k].toNat = l[k].toNat) :
    Row w g o l.length (mixed l (k + 1)) :=
  hr.same fun i _ => by
    by_cases hi : i = k
    · subst hi; rw [mixed_succ_at l i hlt, mixed_at l i hlt, h]
    · exact mixed_succ_other l k i hi
theorem canon_set {w : World} {g o : Nat} {l : List UInt8} {k : Nat} (hr : Row w g o l.length (mixed l k)) (hlt : k < l.length) {x : Int} (h : fixN (upAt l k) l[k].toNat = x) :
    Row (w.setCell ⟨g, o + k, none⟩ (.int .u8 x)) g o l.length (mixed l (k + 1)) :=
  hr.set hlt x (by rw [mixed_succ_at l k hlt, h]) fun i _ hi => mixed_succ_other l k i hi
theorem canon_set0 {w : World} {g : Nat} {l : List UInt8} {k : Nat} (hr : Row w g 0 l.length (mixed l k)) (hlt : k < l.length) {x : Int} (h : fixN (upAt l k) l[k].toNat = x) :
    Row (w.setCell ⟨g, k, none⟩ (.int .u8 x)) g 0 l.length (mixed l (k + 1)) := by
  have := canon_set hr hlt h
  rwa [Nat.zero_add] at this

set_option maxHeartbeats 1600000 in
theorem specCanon_yes (l : List UInt8) (hl : l.length ≤ 9223372036854775807) (hk : (keyB l && !l.isEmpty) = true) (w : World) :
    Calls Tryd.prog 26 #[.string ⟨l.toArray⟩] w fun e w' => e = .returned (.string ⟨(canonOf l).toArray⟩) ∧ Below w.heap.size w w' := by
  have HK := Lib.hid hk
  clear hk
  go_enter Tryd.func26, Tryd.ntmps26
  go_wp2_with (first
    | (go_at_call 13; refine (key_any l hl _).mono ?_; rw [HK.out]; rintro e w' ⟨rfl, rfl⟩)
    | (with_reducible refine at_toBytes ?_; refine wpList_toBytes rfl _ rfl l rfl hl ?_; intro c w1 hf))
  obtain ⟨hb, hz, hc, hc', hrow⟩ := hf
  have HR := Lib.hid hrow
  clear hrow
  go_loopw [4, 15] (fun u i wr => ∃ k : Nat, k ≤ l.length ∧ i = .int .i64 k ∧ u = .bool (upAt l k) ∧ Row wr w.heap.size 0 l.length (mixed l k) ∧ Below w.heap.size w wr) (fun _ i _ => l.length - (intOf i).toNat)
  case atStart => exact ⟨0, Nat.zero_le _, rfl, by rw [upAt_zero], HR.out.same (fun i _ => mixed_zero l i), hb⟩
  case round =>
    obtain ⟨k, hk, rfl, rfl, hr, hbw⟩ := hrel
    have HR := Lib.hid hr
    clear hr
    by_cases hlt : k < l.length
    · have hcell := HR.out.cell hlt
      rw [mixed_at l k hlt, Nat.zero_add] at hcell
      have hfree := HR.out.free hlt
      rw [Nat.zero_add] at hfree
      go_wp2
      all_goals
        go_roundw
        case rel =>
          first
            | exact ⟨k + 1, by omega, by go_num, by rw [upAt_succ l k hlt], canon_keep HR.out hlt (by unfold fixN lowB capB; simp [*] <;> omega), hbw⟩
            | exact ⟨k + 1, by omega, by go_num, by rw [upAt_succ l k hlt], canon_set0 HR.out hlt (by unfold fixN lowB capB; simp [*] <;> omega), hbw.setCell (Nat.le_refl _) _⟩
        case measure => simp [intOf]; omega
    · obtain rfl : k = l.length := by omega
      have hcv := run_toString (w := wr) (g := w.heap.size) (o := 0) (c := c) (l := canonL l) (canonL_length l).symm (HR.out.same fun i hi => (mixed_end l i hi).symm)
      go_wp2
      go_ret
      exact ⟨ret_str (by unfold canonOf; rw [if_pos (by have := HK.out; simp at this; exact this.1)]), hbw⟩

theorem canonOf_no {l : List UInt8} (hk : (keyB l && !l.isEmpty) = false) : canonOf l = l := by
  unfold canonOf
  split
  · rename_i h
    rw [h] at hk
    simp at hk
    subst hk; rfl
  · rfl
theorem specCanon_no (l : List UInt8) (hl : l.length ≤ 9223372036854775807) (hk : (keyB l && !l.isEmpty) = false) (w : World) :
    Calls Tryd.prog 26 #[.string ⟨l.toArray⟩] w fun e w' => e = .returned (.string ⟨(canonOf l).toArray⟩) ∧ Below w.heap.size w w' := by
  have HK := Lib.hid hk
  clear hk
  go_enter Tryd.func26, Tryd.ntmps26
  go_wp2_with (go_at_call 13; refine (key_any l hl _).mono ?_; rw [HK.out]; rintro e w' ⟨rfl, rfl⟩)
  go_ret
  exact ⟨ret_str (canonOf_no HK.out).symm, Below.refl _ _⟩
theorem specCanon_any (l : List UInt8) (hl : l.length ≤ 9223372036854775807) (w : World) :
    Calls Tryd.prog 26 #[.string ⟨l.toArray⟩] w fun e w' => e = .returned (.string ⟨(canonOf l).toArray⟩) ∧ Below w.heap.size w w' := by
  rcases hk : (keyB l && !l.isEmpty) with _ | _
  · exact specCanon_no l hl hk w
  · exact specCanon_yes l hl hk w

/-- A byte that a key read from a line may bear. -/
def loose (b : UInt8) : Bool := fieldB b.toNat || b == 32
/-- Does canonicalMIMEHeaderKey take it for a key? -/
def looseKey (l : List UInt8) : Bool := !l.isEmpty && l.all loose

theorem fieldB_iff_32 (b : UInt8) (h : fieldB b.toNat = true) : ((b.toNat : Int) == 32) = false := by
  rw [beq_eq_false_iff_ne]
  intro he
  rw [he, fieldB_no_32] at h; cases h

theorem all_take_succ (p : UInt8 → Bool) (l : List UInt8) (k : Nat) (h : k < l.length) : (l.take (k + 1)).all p = ((l.take k).all p && p l[k]) := by
  rw [List.take_succ_eq_append_getElem h, List.all_append]; simp
theorem any_take_succ (p : UInt8 → Bool) (l : List UInt8) (k : Nat) (h : k < l.length) : (l.take (k + 1)).any p = ((l.take k).any p || p l[k]) := by
  rw [List.take_succ_eq_append_getElem h, List.any_append]; simp
/-- Is there a space? -/
def spaced (l : List UInt8) : Bool := l.any (fun b => (b.toNat : Int) == 32)
theorem byte32 (b : UInt8) : ((b.toNat : Int) == 32) = (b == 32) := by
  rw [Bool.eq_iff_iff, beq_iff_eq, beq_iff_eq]
  have := byte_eq_iff b 32
  simpa using this
theorem keyB_of_loose {l : List UInt8} (h : l.all loose = true) (hs : spaced l = false) : keyB l = true := by
  unfold keyB
  rw [List.all_eq_true] at h ⊢
  intro b hb
  have h1 := h b hb
  unfold spaced at hs
  rw [List.any_eq_false] at hs
  have h2 := hs b hb
  rw [byte32] at h2
  unfold loose at h1
  simpa [h2] using h1
theorem keyB_spaced {l : List UInt8} (hs : spaced l = true) : keyB l = false := by
  unfold spaced at hs
  rw [List.any_eq_true] at hs
  obtain ⟨b, hb, h2⟩ := hs
  rcases hk : keyB l with _ | _
  · rfl
  · have := List.all_eq_true.1 hk b hb
    rw [beq_iff_eq.1 h2, fieldB_no_32] at this; cases this
theorem canonOf_yes {l : List UInt8} (h : keyB l = true) : canonOf l = canonL l := by unfold canonOf; rw [if_pos h]
theorem canonOf_bad {l : List UInt8} (h : keyB l = false) : canonOf l = l := by unfold canonOf; rw [h]; rfl
theorem looseKey_yes {l : List UInt8} (h : 0 < l.length) (h2 : l.all loose = true) : looseKey l = true := by
  unfold looseKey; rw [h2]; cases l with
  | nil => simp at h
  | cons b t => rfl
theorem looseKey_no {l : List UInt8} {k : Nat} (h : k < l.length) (h2 : loose l[k] = false) : looseKey l = false := by
  unfold looseKey
  rw [Bool.and_eq_false_iff]; right
  rcases hk : l.all loose with _ | _
  · rfl
  · have := List.all_eq_true.1 hk l[k] (List.getElem_mem _)
    rw [h2] at this; cases this
theorem ret_two {a b : List UInt8} {x y : Bool} (h : a = b) (h2 : x = y) : Ending.returned (.tuple #[.string ⟨a.toArray⟩, .bool x]) = .returned (.tuple #[.string ⟨b.toArray⟩, .bool y]) := by rw [h, h2]

set_option maxHeartbeats 400000 in
theorem canonKey_any (A : Option Addr) (l : List UInt8) (c g o : Nat) (hA : l ≠ [] → A = some ⟨g, o, none⟩) (hlc : l.length ≤ c) (hc : c ≤ 9223372036854775807) (w : World) (hr : Row w g o l.length (fun i => (l.getD i 0).toNat)) :
    Calls Tryd.prog 50 #[.slice A l.length c] w fun e w' => e = .returned (.tuple #[.string ⟨(canonOf l).toArray⟩, .bool (looseKey l)]) ∧ Wrote g o (o + l.length) w w' := by
  cases l with
  | nil =>
    go_enter Tryd.func50, Tryd.ntmps50
    go_wp2
    go_ret2
    exact ⟨rfl, Wrote.refl _ _ _ _⟩
  | cons b t =>
    obtain rfl := hA (by simp)
    clear hA
    obtain ⟨l, hl⟩ : ∃ l, l = b :: t := ⟨_, rfl⟩
    rw [← hl] at hlc hr ⊢
    have hpos : 0 < l.length := by rw [hl]; simp
    have HR := Lib.hid hr
    clear hr hl b t
    go_enter Tryd.func50, Tryd.ntmps50
    have hcv0 := run_toString (c := c) rfl HR.out
    have hl0 : ((l.length : Int) == 0) = false := by rw [beq_eq_false_iff_ne]; omega
    go_wp2
    go_loop [4, 15] (fun s i => ∃ k : Nat, k ≤ l.length ∧ i = .int .i64 k ∧ s = .bool (spaced (l.take k)) ∧ (l.take k).all loose = true) (fun _ i => l.length - (intOf i).toNat)
    case atStart => exact ⟨0, Nat.zero_le _, rfl, rfl, rfl⟩
    case round =>
      obtain ⟨k, hk, rfl, rfl, hno⟩ := hrel
      have HN := Lib.hid hno
      clear hno
      by_cases hlt : k < l.length
      · have hcell := HR.out.cell hlt
        rw [List.getD_eq_getElem?_getD, List.getElem?_eq_getElem hlt] at hcell
        rcases hb : fieldB l[k].toNat with _ | _
        · have HB := Lib.hid hb
          clear hb
          rcases h32 : ((l[k].toNat : Int) == 32) with _ | _
          rotate_left
          · go_wp2_with (go_at_call 76; refine (validField_any l[k].toNat (by omega) (byte_le _) _).mono ?_; rw [HB.out]; rintro e w' ⟨rfl, rfl⟩)
            go_round
            case rel => exact ⟨k + 1, by omega, by go_num, by unfold spaced; rw [any_take_succ _ l k hlt, h32]; simp, by rw [all_take_succ _ l k hlt, HN.out, loose, ← byte32, h32]; simp⟩
            case measure => simp [intOf]; omega
          · go_wp2_with (go_at_call 76; refine (validField_any l[k].toNat (by omega) (byte_le _) _).mono ?_; rw [HB.out]; rintro e w' ⟨rfl, rfl⟩)
            go_ret2
            exact ⟨ret_two (canonOf_bad (keyB_no k hlt HB.out)).symm (looseKey_no hlt (by rw [loose, ← byte32, HB.out, h32]; rfl)).symm, Wrote.refl _ _ _ _⟩
        · have HB := Lib.hid hb
          have h32 := fieldB_iff_32 l[k] hb
          clear hb
          go_wp2_with (go_at_call 76; refine (validField_any l[k].toNat (by omega) (byte_le _) _).mono ?_; rw [HB.out]; rintro e w' ⟨rfl, rfl⟩)
          go_round
          case rel => exact ⟨k + 1, by omega, by go_num, by unfold spaced; rw [any_take_succ _ l k hlt, h32]; simp, by rw [all_take_succ _ l k hlt, HN.out, loose, HB.out]; rfl⟩
          case measure => simp [intOf]; omega
      · obtain rfl : k = l.length := by omega
        have HN2 : Hid (l.all loose = true) := by have := HN.out; rwa [List.take_length] at this
        rw [List.take_length]
        clear HN hlt hk
        rcases hsp : spaced l with _ | _
        · have HK : Hid (keyB l = true) := keyB_of_loose HN2.out hsp
          go_wp2
          clear hcv0 hsp
          go_loopw [7, 31] (fun u i wr => ∃ k : Nat, k ≤ l.length ∧ i = .int .i64 k ∧ u = .bool (upAt l k) ∧ Row wr g o l.length (mixed l k) ∧ Wrote g o (o + l.length) w wr) (fun _ i _ => l.length - (intOf i).toNat)
          case atStart => exact ⟨0, Nat.zero_le _, rfl, by rw [upAt_zero], HR.out.same (fun i _ => mixed_zero l i), Wrote.refl _ _ _ _⟩
          case round =>
            clear HR
            obtain ⟨k, hk, rfl, rfl, hr, hbw⟩ := hrel
            have HR := Lib.hid hr
            clear hr
            by_cases hlt : k < l.length
            · have hcell := HR.out.cell hlt
              rw [mixed_at l k hlt] at hcell
              have hfree := HR.out.free hlt
              go_wp2
              all_goals
                go_roundw
                case rel =>
                  exact ⟨k + 1, by omega, by go_num, by refine congrArg Value.bool ?_; first | (rw [upAt_succ l k hlt]; done) | (rw [upAt_succ l k hlt, Bool.eq_iff_iff]; simp; omega), canon_set HR.out hlt (by unfold fixN lowB capB; simp [*] <;> omega), hbw.setCell (by omega) (by omega) _⟩
                case measure => simp [intOf]; omega
            · obtain rfl : k = l.length := by omega
              have hcv := run_toString (w := wr) (g := g) (o := o) (c := c) (l := canonL l) (canonL_length l).symm (HR.out.same fun i hi => (mixed_end l i hi).symm)
              go_wp2
              go_ret2
              exact ⟨ret_two (canonOf_yes HK.out).symm (looseKey_yes hpos HN2.out).symm, hbw⟩
        · have HK : Hid (keyB l = false) := keyB_spaced hsp
          go_wp2
          go_ret2
          exact ⟨ret_two (canonOf_bad HK.out).symm (looseKey_yes hpos HN2.out).symm, Wrote.refl _ _ _ _⟩

end Go.Proofs.YtilhgjcjofobeaaDoor
namespace Go.Proofs.YtilhgjcjofobeaaDoor
open Go.RowKit

def fits5 (F : FieldR) : Bool := decide (F.key.length ≤ 2147483647) && fits2 F.val
set_option maxRecDepth 200000 in
theorem zzFits5_any (F : FieldR) (hF : F.len) (B : Option Addr) (c : Nat) (w : World) (hs : SL w B F.val.ps) :
    Calls Tryd.prog 12 #[.agg #[.string ⟨F.key.toArray⟩, .slice B F.val.ps.length c, .string ⟨F.val.bl.toArray⟩, .bool F.val.feed]] w fun e w' => e = .returned (.bool (fits5 F)) ∧ Below w.heap.size w w' := by
  obtain ⟨key, L⟩ := F
  obtain ⟨h0, hL⟩ := hF
  have h0 : key.length ≤ 9223372036854775807 := h0
  have hz := zzFits2_any L hL B c (w.alloc (.cells #[.string ⟨key.toArray⟩, .slice B L.ps.length c, .string ⟨L.bl.toArray⟩, .bool L.feed] 38)) (hs.below ((Below.refl _ w).alloc (Nat.le_refl _) _))
  show Calls Tryd.prog 12 #[.agg #[.string ⟨key.toArray⟩, .slice B L.ps.length c, .string ⟨L.bl.toArray⟩, .bool L.feed]] w fun e w' => e = .returned (.bool (decide (key.length ≤ 2147483647) && fits2 L)) ∧ Below w.heap.size w w'
  obtain ⟨f, hf⟩ : ∃ f, f = fits2 L := ⟨_, rfl⟩
  rw [← hf] at hz ⊢
  have HZ := Lib.hid hz
  clear hz hf hs hL
  by_cases hb : key.length ≤ 2147483647
  · cases f
    all_goals
      go_enter Tryd.func12, Tryd.ntmps12
      go_wp2_with (go_at_call 29; refine HZ.out.mono ?_; rintro e w' ⟨rfl, hb2⟩; have H2 := Lib.hid hb2; clear hb2)
      go_ret
      exact ⟨ret_bool (by rw [decide_eq_true hb, Bool.true_and]), ((Below.refl _ _).alloc (Nat.le_refl _) _).trans (H2.out.mono (by simp))⟩
  · go_enter Tryd.func12, Tryd.ntmps12
    go_wp2
    go_ret
    exact ⟨rfl, (Below.refl _ _).alloc (Nat.le_refl _) _⟩
set_option maxRecDepth 200000 in
set_option maxHeartbeats 1600000 in
theorem zzFits4_any {w : World} {A : Option Addr} {n c : Nat} {Fs : List FieldR} (hr : FL w A Fs) (hn : n = Fs.length) (hl : ∀ F ∈ Fs, F.len) (hm : Fs.length ≤ 9223372036854775807) :
    Calls Tryd.prog 5 #[.slice A n c] w fun e w' => e = .returned (.bool (decide (Fs.length ≤ 2147483647) && Fs.all fits5)) ∧ Below w.heap.size w w' := by
  subst hn
  by_cases hbig : Fs.length ≤ 2147483647
  · rw [decide_eq_true hbig, Bool.true_and]
    by_cases hne : Fs = []
    · subst hne
      clear hr hl
      go_enter Tryd.func5, Tryd.ntmps5
      go_wp2
      go_loop [10] (fun i => i = .int .i64 0) (fun _ => 0)
      case atStart => rfl
      case round =>
        subst hrel
        go_wp2
        go_ret
        exact ⟨rfl, Below.refl _ _⟩
    · obtain ⟨g, o, rfl, hx⟩ := hr hne
      have HX := Lib.hid (And.intro hx hl)
      clear hr hx hl
      go_enter Tryd.func5, Tryd.ntmps5
      go_wp2
      go_loopg [4, 10] Fs.length (fun gk _ i wr => ∃ k : Nat, k + gk = Fs.length ∧ i = .int .i64 k ∧ Hid ((Fs.take k).all fits5 = true) ∧ Below w.heap.size w wr)
      case atStart => exact ⟨0, by omega, rfl, Lib.hid rfl, Below.refl _ _⟩
      case round =>
        obtain ⟨k, hk, rfl, hcl, hb⟩ := hrel
        by_cases hlt : k < Fs.length
        · obtain ⟨F, hF⟩ : ∃ F, F = Fs[k] := ⟨_, rfl⟩
          have hat := (HX.out.1 k F (by rw [hF]; exact List.getElem?_eq_getElem hlt)).below hb
          have hlen := HX.out.2 F (by rw [hF]; exact List.getElem_mem hlt)
          have hsn := all_snoc fits5 Fs k hlt
          have hbd := all_bad fits5 Fs k hlt
          rw [← hF] at hsn hbd
          obtain ⟨ck, B, c', c0, c1, c2, hs⟩ := hat
          have hz := fun w2 (h : Below wr.heap.size wr w2) => zzFits5_any F hlen B c' w2 (hs.below h)
          obtain ⟨f, hf⟩ : ∃ f, f = fits5 F := ⟨_, rfl⟩
          rw [← hf] at hz hsn hbd
          have HS := Lib.hid (And.intro hsn (And.intro hbd (And.intro hz hb)))
          clear hF hsn hbd hz hb hs hf hlen
          cases f
          · go_wp2_with (go_at_call 12; refine (HS.out.2.2.1 _ ((Below.refl _ wr).alloc (Nat.le_refl _) _)).mono ?_; rintro e w3 ⟨rfl, hb3⟩; have H3 := Lib.hid hb3; clear hb3)
            go_ret
            exact ⟨ret_bool (HS.out.2.1 (by first | rfl | trivial)).symm, (HS.out.2.2.2.alloc HS.out.2.2.2.size _).trans (H3.out.mono (by simp; have := HS.out.2.2.2.size; omega))⟩
          · go_wp2_with (go_at_call 12; refine (HS.out.2.2.1 _ ((Below.refl _ wr).alloc (Nat.le_refl _) _)).mono ?_; rintro e w3 ⟨rfl, hb3⟩; have H3 := Lib.hid hb3; clear hb3)
            go_roundg (gk - 1)
            case measure => omega
            case rel => exact ⟨k + 1, by omega, by go_num, Lib.hid (by rw [HS.out.1, hcl.out]; rfl), (HS.out.2.2.2.alloc HS.out.2.2.2.size _).trans (H3.out.mono (by simp; have := HS.out.2.2.2.size; omega))⟩
        · have hall := hcl.out
          rw [List.take_of_length_le (by omega)] at hall
          have HA := Lib.hid (And.intro hall hb)
          clear hall hb
          go_wp2
          go_ret
          exact ⟨ret_bool HA.out.1.symm, HA.out.2⟩
  · rw [decide_eq_false hbig, Bool.false_and]
    clear hr hl
    go_enter Tryd.func5, Tryd.ntmps5
    go_wp2
    go_ret
    exact ⟨rfl, Below.refl _ _⟩
end Go.Proofs.YtilhgjcjofobeaaDoor
