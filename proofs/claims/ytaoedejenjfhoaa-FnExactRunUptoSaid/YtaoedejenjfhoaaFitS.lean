/- The bounds of steps. -/
import Derived.Test.YtaoedejenjfhoaaRunI
import Derived.Deep.DeepCutAuto
namespace Go.Proofs.Ytaoedejenjfhoaa
open Go.RowKit Go.Maps

set_option maxRecDepth 200000 in
theorem fits10_any {w : World} (a b c : List UInt8) (ha : a.length ≤ 2147483647) (hb : b.length ≤ 2147483647) (hc : c.length ≤ 2147483647) :
    Calls Try.prog 29 #[.agg #[.string ⟨a.toArray⟩, .string ⟨b.toArray⟩, .string ⟨c.toArray⟩]] w fun e w' => e = .returned (.bool true) ∧ Below w.heap.size w w' := by
  have HA := Lib.hid (Below.refl w.heap.size w)
  go_enter Try.func29, Try.ntmps29
  go_wp2
  go_ret
  exact ⟨rfl, (Below.refl _ _).alloc (Nat.le_refl _) _⟩
set_option maxRecDepth 200000 in
theorem fits9_any {w : World} {A : Option Addr} {n c : Nat} {ts : List StepR} (hr : TL w A ts) (hn : n = ts.length) (hm : ts.length ≤ 100000000) (hl : ∀ t ∈ ts, t.c.length ≤ 2147483647 ∧ t.k.length ≤ 2147483647 ∧ t.v.length ≤ 2147483647) :
    Calls Try.prog 17 #[.slice A n c] w fun e w' => e = .returned (.bool true) ∧ Below w.heap.size w w' := by
  subst hn
  have HX := Lib.hid (And.intro hr hl)
  clear hr hl
  go_enter Try.func17, Try.ntmps17
  go_wp2
  go_loopg [4, 10] (ts.length) (fun gk _ i wr => ∃ k : Nat, k + gk = ts.length ∧ i = .int .i64 k ∧ Hid (Below w.heap.size w wr))
  case atStart => exact ⟨0, by omega, rfl, Lib.hid (Below.refl _ _)⟩
  case round =>
    obtain ⟨k, hk, rfl, hb⟩ := hrel
    by_cases hlt : k < ts.length
    · have hne : ts ≠ [] := by rintro rfl; simp at hlt
      have hkl := HX.out.2 ts[k] (List.getElem_mem hlt)
      obtain ⟨g, o, rfl, hx⟩ := HX.out.1 hne
      obtain ⟨d0, d1, d2⟩ := hx k ts[k] (List.getElem?_eq_getElem hlt)
      have c0 := (hb.out.cell (p := ⟨g, o + k * 3, none⟩) (World.block_lt_of_cell? _ _ d0)).trans d0
      have c1 := (hb.out.cell (p := ⟨g, o + k * 3 + 1, none⟩) (World.block_lt_of_cell? _ _ d1)).trans d1
      have c2 := (hb.out.cell (p := ⟨g, o + k * 3 + 2, none⟩) (World.block_lt_of_cell? _ _ d2)).trans d2
      generalize ts[k] = t at c0 c1 c2 hkl
      obtain ⟨tc, tk, tv⟩ := t
      have c0 : wr.cell? ⟨g, o + k * 3, none⟩ = some (.string ⟨tc.toArray⟩) := c0
      have c1 : wr.cell? ⟨g, o + k * 3 + 1, none⟩ = some (.string ⟨tk.toArray⟩) := c1
      have c2 : wr.cell? ⟨g, o + k * 3 + 2, none⟩ = some (.string ⟨tv.toArray⟩) := c2
      have HK := Lib.hid hkl
      clear d0 d1 d2 hx hne hkl
      have HB1 := Lib.hid (hb.out.alloc hb.out.size (.cells #[.string ⟨tc.toArray⟩, .string ⟨tk.toArray⟩, .string ⟨tv.toArray⟩] 36))
      go_wp2_with (go_at_call 29; refine (fits10_any _ _ _ HK.out.1 HK.out.2.1 HK.out.2.2).mono ?_; rintro e w2 ⟨rfl, hb2⟩; have H2 := Lib.hid hb2; clear hb2)
      go_roundg (gk - 1)
      case measure => omega
      case rel => exact ⟨k + 1, by omega, by go_num, Lib.hid (HB1.out.trans (H2.out.mono HB1.out.size))⟩
    · go_wp2
      go_ret
      exact ⟨rfl, hb.out⟩
end Go.Proofs.Ytaoedejenjfhoaa
