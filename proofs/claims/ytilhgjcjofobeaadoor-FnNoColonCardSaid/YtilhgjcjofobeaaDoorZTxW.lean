/- The text of a long line of any size that fits, and what a field that the reference takes weighs. -/
import Derived.Test.YtilhgjcjofobeaaDoorZC6
import Derived.Test.YtilhgjcjofobeaaDoorZCa
namespace Go.Proofs.YtilhgjcjofobeaaDoor
open Go.RowKit

theorem moreText_leM {bl : List UInt8} (feed : Bool) (h : bl.length ≤ 20) {M : Nat} : ∀ ps : List (List UInt8), (∀ p ∈ ps, p.length ≤ M) → (moreText bl feed ps).length ≤ ps.length * (M + 22)
  | [], _ => by simp [moreText]
  | p :: r, hp => by
    have he : (eol feed).length ≤ 2 := by cases feed <;> simp [eol]
    have ih := moreText_leM feed h r (fun q hq => hp q (List.mem_cons_of_mem _ hq))
    have h1 := hp p (List.mem_cons_self ..)
    have e1 : moreText bl feed (p :: r) = bl ++ (p ++ eol feed) ++ moreText bl feed r := by simp [moreText]
    rw [e1, List.length_append, List.length_append, List.length_append, List.length_cons, Nat.succ_mul]
    omega
theorem textR_leM {bl : List UInt8} (feed : Bool) (h : bl.length ≤ 20) {M : Nat} (ps : List (List UInt8)) (hp : ∀ p ∈ ps, p.length ≤ M) : (textR bl feed ps).length ≤ ps.length * (M + 22) := by
  cases ps with
  | nil => simp [textR]
  | cons p r =>
    have he : (eol feed).length ≤ 2 := by cases feed <;> simp [eol]
    have ih := moreText_leM feed h r (fun q hq => hp q (List.mem_cons_of_mem _ hq))
    have h1 := hp p (List.mem_cons_self ..)
    simp only [textR, List.length_append]
    rw [List.length_cons, Nat.succ_mul]
    omega
/-- A text that fits. -/
theorem wide_text {F : FieldR} (hf : fits5 F = true) (hw : wellB F.val = true) : (textR F.val.bl F.val.feed F.val.ps).length ≤ 4700000000000000000 := by
  unfold fits5 fits2 at hf
  simp only [Bool.and_eq_true, decide_eq_true_eq] at hf
  obtain ⟨_, ⟨h1, h2⟩, _⟩ := hf
  have h3 : ∀ p ∈ F.val.ps, p.length ≤ 2147483647 := fun p hp => by
    have := List.all_eq_true.1 h2 p hp
    simpa using this
  have h4 := textR_leM F.val.feed (well_bl hw) F.val.ps h3
  have h5 : F.val.ps.length * (2147483647 + 22) ≤ 2147483647 * (2147483647 + 22) := Nat.mul_le_mul_right _ h1
  omega
theorem fits5_key {F : FieldR} (hf : fits5 F = true) : F.key.length ≤ 2147483647 := by
  unfold fits5 at hf
  simp only [Bool.and_eq_true, decide_eq_true_eq] at hf
  exact hf.1
theorem wtS_le_text (bl : List UInt8) (feed : Bool) (ps : List (List UInt8)) : wtS ps ≤ (textR bl feed ps).length := by
  have he : 1 ≤ (eol feed).length := by cases feed <;> simp [eol]
  have hm : ∀ r : List (List UInt8), wtS r ≤ (moreText bl feed r).length := fun r => by
    induction r with
    | nil => simp [moreText, wtS]
    | cons p r ih =>
      have e1 : moreText bl feed (p :: r) = bl ++ (p ++ eol feed) ++ moreText bl feed r := by simp [moreText]
      have e2 : wtS (p :: r) = p.length + 1 + wtS r := by simp [wtS]
      rw [e1, e2, List.length_append, List.length_append, List.length_append]
      omega
  cases ps with
  | nil => simp [wtS]
  | cons p r =>
    have := hm r
    have e2 : wtS (p :: r) = p.length + 1 + wtS r := by simp [wtS]
    rw [e2]
    simp only [textR, List.length_append]
    omega
set_option maxRecDepth 200000 in
set_option maxHeartbeats 1600000 in
theorem longTextW_any (L : LongR) (B : Option Addr) (c : Nat) (w : World) (hs : SL w B L.ps) (hN : (textR L.bl L.feed L.ps).length ≤ 4700000000000000000) (hn : L.ps.length ≤ 9223372036854775807) :
    Calls Tryd.prog 15 #[.agg #[.slice B L.ps.length c, .string ⟨L.bl.toArray⟩, .bool L.feed]] w fun e w' => e = .returned (.string ⟨(textR L.bl L.feed L.ps).toArray⟩) ∧ Below w.heap.size w w' := by
  obtain ⟨ps, bl, feed⟩ := L
  have hN : (textR bl feed ps).length ≤ 4700000000000000000 := hN
  have hn : ps.length ≤ 9223372036854775807 := hn
  show Calls Tryd.prog 15 #[.agg #[.slice B ps.length c, .string ⟨bl.toArray⟩, .bool feed]] w fun e w' => e = .returned (.string ⟨(textR bl feed ps).toArray⟩) ∧ Below w.heap.size w w'
  have hs2 := hs.below ((Below.refl _ w).alloc (Nat.le_refl _) (.cells #[.slice B ps.length c, .string ⟨bl.toArray⟩, .bool feed] 36))
  by_cases hne : ps = []
  · subst hne
    clear hs2 hs
    cases feed
    all_goals
      go_enter Tryd.func15, Tryd.ntmps15
      go_wp2
      go_loop [4, 12] (fun u i => i = .int .i64 0 ∧ u = .string ⟨#[]⟩) (fun _ _ => 0)
      case atStart => exact ⟨rfl, rfl⟩
      case round =>
        obtain ⟨rfl, rfl⟩ := hrel
        go_wp2
        go_ret
        exact ⟨rfl, (Below.refl _ _).alloc (Nat.le_refl _) _⟩
  · obtain ⟨g, o, rfl, hx⟩ := hs2 hne
    have HX := Lib.hid (And.intro hx (show ∀ k, (textR bl feed (ps.take k)).length ≤ 4700000000000000000 from fun k => Nat.le_trans (textR_take_le bl feed ps k) hN))
    clear hx hs hs2 hN
    obtain ⟨en, hen⟩ : ∃ en, en = eol feed := ⟨_, rfl⟩
    have hsn := fun (k : Nat) (hk : k < ps.length) => (show textR bl feed (ps.take (k + 1)) = (if k = 0 then [] else textR bl feed (ps.take k) ++ bl) ++ (ps[k] ++ en) by
      rw [List.take_succ_eq_append_getElem hk, textR_snoc, hen]
      by_cases h0 : k = 0
      · subst h0; simp
      · rw [if_neg h0, if_neg (fun e => by have := congrArg List.length e; rw [List.length_take, List.length_nil] at this; omega)])
    have HSN := Lib.hid (And.intro hsn (show ∀ k, k = 0 → textR bl feed (ps.take k) = [] from fun k h => by subst h; simp [textR]))
    clear hsn
    cases feed
    all_goals
      go_enter Tryd.func15, Tryd.ntmps15
      go_wp2
      go_loop [4, 5, 6, 12] (fun u4 _ _ i => ∃ k : Nat, k ≤ ps.length ∧ i = .int .i64 k ∧ ∃ acc : List UInt8, u4 = .string ⟨acc.toArray⟩ ∧ acc.length ≤ 4700000000000000000 ∧ Hid (acc = textR bl _ (ps.take k))) (fun _ _ _ i => ps.length - (intOf i).toNat)
      case atStart => exact ⟨0, Nat.zero_le _, rfl, [], rfl, Nat.zero_le _, Lib.hid rfl⟩
      case round =>
        obtain ⟨k, hk, rfl, acc, rfl, hal, hacc⟩ := hrel
        by_cases hlt : k < ps.length
        · obtain ⟨s, hs⟩ : ∃ s, s = ps[k] := ⟨_, rfl⟩
          have hcell := HX.out.1 k s (by rw [hs]; exact List.getElem?_eq_getElem hlt)
          have hsn := HSN.out.1 k hlt
          have hle := HX.out.2 (k + 1)
          rw [← hs, ← hacc.out] at hsn
          rw [hsn] at hle
          by_cases h0 : k = 0
          · have ha0 : acc = [] := hacc.out.trans (HSN.out.2 k h0)
            subst h0
            subst ha0
            rw [if_pos rfl, List.nil_append] at hsn hle
            rw [Nat.add_zero] at hcell
            have HS := Lib.hid hsn
            have hsl : s.length + en.length ≤ 4700000000000000000 := by rw [List.length_append] at hle; omega
            have hsl2 : s.length ≤ 4700000000000000000 := by omega
            clear hs hsn hle
            go_wp2
            go_round
            case rel => exact ⟨1, by omega, by go_num, _, rfl, by rw [hen] at hsl; simp [eol] at hsl ⊢; omega, Lib.hid (by rw [HS.out, hen]; rfl)⟩
            case measure => simp [intOf]; omega
          · rw [if_neg h0] at hsn hle
            have HS := Lib.hid hsn
            have hsl : acc.length + bl.length + s.length + en.length ≤ 4700000000000000000 := by simp only [List.length_append] at hle; omega
            have hsl2 : acc.length + bl.length + s.length ≤ 4700000000000000000 := by omega
            have hkp : (0 : Int) < (k : Int) := by omega
            clear hs hsn hle
            go_wp2
            go_round
            case rel => exact ⟨k + 1, by omega, by go_num, _, rfl, by rw [hen] at hsl; simp [eol] at hsl ⊢; omega, Lib.hid (by rw [HS.out, hen]; simp [eol])⟩
            case measure => simp [intOf]; omega
        · have hfin := hacc.out
          rw [List.take_of_length_le (by omega)] at hfin
          have HF := Lib.hid hfin
          clear hfin
          go_wp2
          go_ret
          exact ⟨ret_str HF.out, (Below.refl _ _).alloc (Nat.le_refl _) _⟩
end Go.Proofs.YtilhgjcjofobeaaDoor
