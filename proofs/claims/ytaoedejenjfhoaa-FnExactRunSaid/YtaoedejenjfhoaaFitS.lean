/- The bounds of steps. -/
import Derived.Test.YtaoedejenjfhoaaRunI
import Derived.Test.YtaoedejenjfhoaaOpenV
import Derived.Deep.DeepCutAuto
namespace Go.Proofs.Ytaoedejenjfhoaa
open Go.RowKit Go.Maps

theorem ret_bool2 {a b : Bool} (h : a = b) : (Ending.returned (.bool a)) = .returned (.bool b) := by rw [h]
theorem all_snoc {α : Type} (f : α → Bool) (ls : List α) (k : Nat) (h : k < ls.length) : (ls.take (k + 1)).all f = ((ls.take k).all f && f ls[k]) := by
  rw [List.take_succ_eq_append_getElem h, List.all_append]
  simp only [List.all_cons, List.all_nil, Bool.and_true]
theorem all_bad {α : Type} (f : α → Bool) (ls : List α) (k : Nat) (h : k < ls.length) (hc : f ls[k] = false) : ls.all f = false := by
  rw [Bool.eq_false_iff]
  intro h1
  rw [List.all_eq_true.1 h1 ls[k] (List.getElem_mem h)] at hc
  cases hc
def fits10 (t : StepR) : Bool := decide (t.c.length ≤ 2147483647) && (decide (t.k.length ≤ 2147483647) && decide (t.v.length ≤ 2147483647))
set_option maxRecDepth 200000 in
theorem zzFits10_any {w : World} (a b c : List UInt8) (ha : a.length ≤ 9223372036854775807) (hb : b.length ≤ 9223372036854775807) (hc : c.length ≤ 9223372036854775807) :
    Calls Try.prog 29 #[.agg #[.string ⟨a.toArray⟩, .string ⟨b.toArray⟩, .string ⟨c.toArray⟩]] w fun e w' => e = .returned (.bool (fits10 ⟨a, b, c⟩)) ∧ Below w.heap.size w w' := by
  have hf : fits10 ⟨a, b, c⟩ = (decide (a.length ≤ 2147483647) && (decide (b.length ≤ 2147483647) && decide (c.length ≤ 2147483647))) := rfl
  rw [hf]
  clear hf
  by_cases h1 : a.length ≤ 2147483647
  · by_cases h2 : b.length ≤ 2147483647
    · by_cases h3 : c.length ≤ 2147483647
      · rw [decide_eq_true h1, decide_eq_true h2, decide_eq_true h3]
        have i1 : ¬ (2147483647 : Int) < (a.length : Int) := by omega
        have i2 : ¬ (2147483647 : Int) < (b.length : Int) := by omega
        have i3 : ¬ (2147483647 : Int) < (c.length : Int) := by omega
        clear h1 h2 h3
        go_enter Try.func29, Try.ntmps29
        go_wp2
        go_ret
        exact ⟨rfl, (Below.refl _ _).alloc (Nat.le_refl _) _⟩
      · rw [decide_eq_true h1, decide_eq_true h2, decide_eq_false h3]
        have i1 : ¬ (2147483647 : Int) < (a.length : Int) := by omega
        have i2 : ¬ (2147483647 : Int) < (b.length : Int) := by omega
        have i3 : (2147483647 : Int) < (c.length : Int) := by omega
        clear h1 h2 h3
        go_enter Try.func29, Try.ntmps29
        go_wp2
        go_ret
        exact ⟨rfl, (Below.refl _ _).alloc (Nat.le_refl _) _⟩
    · rw [decide_eq_true h1, decide_eq_false h2]
      have i1 : ¬ (2147483647 : Int) < (a.length : Int) := by omega
      have i2 : (2147483647 : Int) < (b.length : Int) := by omega
      clear h1 h2
      go_enter Try.func29, Try.ntmps29
      go_wp2
      go_ret
      exact ⟨rfl, (Below.refl _ _).alloc (Nat.le_refl _) _⟩
  · rw [decide_eq_false h1]
    have i1 : (2147483647 : Int) < (a.length : Int) := by omega
    clear h1
    go_enter Try.func29, Try.ntmps29
    go_wp2
    go_ret
    exact ⟨rfl, (Below.refl _ _).alloc (Nat.le_refl _) _⟩
set_option maxRecDepth 200000 in
set_option maxHeartbeats 1600000 in
theorem zzFits9_any {w : World} {A : Option Addr} {n c : Nat} {ts : List StepR} (hr : TL w A ts) (hn : n = ts.length) (hl : ∀ t ∈ ts, t.len) (hm : ts.length ≤ 9223372036854775807) :
    Calls Try.prog 17 #[.slice A n c] w fun e w' => e = .returned (.bool (decide (ts.length ≤ 2147483647) && ts.all fits10)) ∧ Below w.heap.size w w' := by
  subst hn
  by_cases hbig : ts.length ≤ 2147483647
  · rw [decide_eq_true hbig, Bool.true_and]
    have HX := Lib.hid (And.intro hr hl)
    clear hr hl
    go_enter Try.func17, Try.ntmps17
    go_wp2
    go_loopg [4, 10] (ts.length) (fun gk _ i wr => ∃ k : Nat, k + gk = ts.length ∧ i = .int .i64 k ∧ Hid ((ts.take k).all fits10 = true) ∧ Hid (Below w.heap.size w wr))
    case atStart => exact ⟨0, by omega, rfl, Lib.hid rfl, Lib.hid (Below.refl _ _)⟩
    case round =>
      obtain ⟨k, hk, rfl, hcl, hb⟩ := hrel
      by_cases hlt : k < ts.length
      · have hne : ts ≠ [] := by rintro rfl; simp at hlt
        have hkl := HX.out.2 ts[k] (List.getElem_mem hlt)
        have hsn := all_snoc fits10 ts k hlt
        have hbd := all_bad fits10 ts k hlt
        obtain ⟨g, o, rfl, hx⟩ := HX.out.1 hne
        obtain ⟨d0, d1, d2⟩ := hx k ts[k] (List.getElem?_eq_getElem hlt)
        have c0 := (hb.out.cell (p := ⟨g, o + k * 3, none⟩) (World.block_lt_of_cell? _ _ d0)).trans d0
        have c1 := (hb.out.cell (p := ⟨g, o + k * 3 + 1, none⟩) (World.block_lt_of_cell? _ _ d1)).trans d1
        have c2 := (hb.out.cell (p := ⟨g, o + k * 3 + 2, none⟩) (World.block_lt_of_cell? _ _ d2)).trans d2
        generalize ts[k] = t at c0 c1 c2 hkl hsn hbd
        obtain ⟨tc, tk, tv⟩ := t
        have c0 : wr.cell? ⟨g, o + k * 3, none⟩ = some (.string ⟨tc.toArray⟩) := c0
        have c1 : wr.cell? ⟨g, o + k * 3 + 1, none⟩ = some (.string ⟨tk.toArray⟩) := c1
        have c2 : wr.cell? ⟨g, o + k * 3 + 2, none⟩ = some (.string ⟨tv.toArray⟩) := c2
        have hz := fun w2 => zzFits10_any (w := w2) tc tk tv hkl.1 hkl.2.1 hkl.2.2
        obtain ⟨f, hf⟩ : ∃ f, f = fits10 ⟨tc, tk, tv⟩ := ⟨_, rfl⟩
        rw [← hf] at hz hsn hbd
        have HK := Lib.hid (And.intro hsn (And.intro hbd hz))
        clear d0 d1 d2 hx hne hkl hsn hbd hz hf
        have HB1 := Lib.hid (hb.out.alloc hb.out.size (.cells #[.string ⟨tc.toArray⟩, .string ⟨tk.toArray⟩, .string ⟨tv.toArray⟩] 36))
        cases f
        · go_wp2_with (go_at_call 29; refine (HK.out.2.2 _).mono ?_; rintro e w2 ⟨rfl, hb2⟩; have H2 := Lib.hid hb2; clear hb2)
          go_ret
          exact ⟨ret_bool2 (HK.out.2.1 (by first | rfl | trivial)).symm, HB1.out.trans (H2.out.mono HB1.out.size)⟩
        · go_wp2_with (go_at_call 29; refine (HK.out.2.2 _).mono ?_; rintro e w2 ⟨rfl, hb2⟩; have H2 := Lib.hid hb2; clear hb2)
          go_roundg (gk - 1)
          case measure => omega
          case rel => exact ⟨k + 1, by omega, by go_num, Lib.hid (by rw [HK.out.1, hcl.out]; rfl), Lib.hid (HB1.out.trans (H2.out.mono HB1.out.size))⟩
      · have hall := hcl.out
        rw [List.take_of_length_le (by omega)] at hall
        have HA := Lib.hid hall
        clear hall hcl
        go_wp2
        go_ret
        exact ⟨ret_bool2 HA.out.symm, hb.out⟩
  · rw [decide_eq_false hbig, Bool.false_and]
    clear hr hl
    go_enter Try.func17, Try.ntmps17
    go_wp2
    go_ret
    exact ⟨rfl, Below.refl _ _⟩
end Go.Proofs.Ytaoedejenjfhoaa
