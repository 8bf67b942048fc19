/- slices.Equal of strings, the reference's SameHeader. -/
import Derived.Test.YtilhgjcjofobeaaDoorZCb
import Derived.Deep.LoopGhost
import Derived.BigQuiet
namespace Go.Proofs.YtilhgjcjofobeaaDoor
open Go.RowKit Go.Maps

set_option maxRecDepth 200000 in
theorem equalStr_same {w : World} {A B : Option Addr} {n m c d : Nat} {ls : List (List UInt8)} (hn : n = ls.length) (hm : m = ls.length) (hl : ls.length ≤ 100000000) (ha : SL w A ls) (hb : SL w B ls) :
    Calls Tryd.prog 25 #[.slice A n c, .slice B m d] w fun e w' => e = .returned (.bool true) ∧ Below w.heap.size w w' := by
  subst hn
  subst hm
  have HR := Lib.hid (And.intro ha hb)
  clear ha hb
  go_enter Tryd.func25, Tryd.ntmps25
  go_wp2
  go_loopg [5, 13] (ls.length) (fun gk _ i wr => ∃ k : Nat, k + gk = ls.length ∧ i = .int .i64 k ∧ Hid (Below w.heap.size w wr))
  case atStart => exact ⟨0, by omega, rfl, Lib.hid (Below.refl _ _)⟩
  case round =>
    obtain ⟨k, hk, rfl, hbel⟩ := hrel
    by_cases hlt : k < ls.length
    · have hne : ls ≠ [] := by rintro rfl; simp at hlt
      obtain ⟨g, o, rfl, hx⟩ := HR.out.1 hne
      obtain ⟨g2, o2, rfl, hx2⟩ := HR.out.2 hne
      have d0 := hx k ls[k] (List.getElem?_eq_getElem hlt)
      have d1 := hx2 k ls[k] (List.getElem?_eq_getElem hlt)
      have c0 := (hbel.out.cell (p := ⟨g, o + k, none⟩) (World.block_lt_of_cell? _ _ d0)).trans d0
      have c1 := (hbel.out.cell (p := ⟨g2, o2 + k, none⟩) (World.block_lt_of_cell? _ _ d1)).trans d1
      clear d0 d1 hx hx2 hne
      generalize ls[k] = s at c0 c1
      go_wp2_with (fail)
      go_quiet (fail)
      go_wp2
      go_roundg (gk - 1)
      case measure => omega
      case rel => exact ⟨k + 1, by omega, by go_num, Lib.hid (hbel.out.trans ⟨rfl, rfl, rfl, Nat.le_refl _, fun _ _ => rfl⟩)⟩
    · go_wp2
      go_ret
      exact ⟨rfl, hbel.out⟩
set_option maxRecDepth 200000 in
theorem same1_any {W : World} (k : List UInt8) {A B : Option Addr} {n m c d : Nat} {l : List (List UInt8)} (hn : n = l.length) (hm : m = l.length) (hl : l.length ≤ 100000000) (ha : SL W A l) (hb : SL W B l) :
    Calls Tryd.prog 24 #[.agg #[.string ⟨k.toArray⟩, .slice A n c], .agg #[.string ⟨k.toArray⟩, .slice B m d]] W fun e w' => e = .returned (.bool true) ∧ Below W.heap.size W w' := by
  subst hn hm
  have hb2 : Below W.heap.size W ((W.alloc (.cells #[.string ⟨k.toArray⟩, .slice A l.length c] 51)).alloc (.cells #[.string ⟨k.toArray⟩, .slice B l.length d] 51)) := ((Below.refl _ _).alloc (Nat.le_refl _) _).alloc (by simp) _
  have HE := Lib.hid (And.intro (equalStr_same (c := c) (d := d) rfl rfl hl (ha.below hb2) (hb.below hb2)) hb2)
  clear ha hb hb2
  go_enter Tryd.func24, Tryd.ntmps24
  go_wp2_with (go_at_call 25; refine HE.out.1.mono ?_; rintro e w2 ⟨rfl, hb3⟩; have H3 := Lib.hid hb3; clear hb3)
  go_ret
  exact ⟨rfl, HE.out.2.trans (H3.out.mono HE.out.2.size)⟩
set_option maxRecDepth 200000 in
set_option maxHeartbeats 1600000 in
theorem eqHdr_same {w : World} {A B : Option Addr} {n m c d : Nat} {L L2 : List (List UInt8 × Value)} {f : List UInt8 → List (List UInt8)} (hn : n = L.length) (hm : m = L.length) (hA : KR w A L) (hB : KR w B L2) (hk : L.map (·.1) = L2.map (·.1))
    (hv : ∀ e ∈ L, ∃ A c, e.2 = .slice A (f e.1).length c ∧ SL w A (f e.1)) (hv2 : ∀ e ∈ L2, ∃ A c, e.2 = .slice A (f e.1).length c ∧ SL w A (f e.1)) (hl : L.length ≤ 100000000) (hl2 : ∀ q, (f q).length ≤ 100000000) :
    Calls Tryd.prog 23 #[.slice A n c, .slice B m d, .func (.func 24) #[] #[]] w fun e w' => e = .returned (.bool true) ∧ Below w.heap.size w w' := by
  subst hn hm
  have HR := Lib.hid (And.intro hA (And.intro hB (And.intro hk (And.intro hv (And.intro hv2 hl2)))))
  clear hA hB hk hv hv2 hl2
  go_enter Tryd.func23, Tryd.ntmps23
  go_wp2
  go_loopg [7, 8, 9, 17] (L.length) (fun gk _ _ _ i wr => ∃ k : Nat, k + gk = L.length ∧ i = .int .i64 k ∧ Hid (Below w.heap.size w wr))
  case atStart => exact ⟨0, by omega, rfl, Lib.hid (Below.refl _ _)⟩
  case round =>
    obtain ⟨k, hk, rfl, hbel⟩ := hrel
    by_cases hlt : k < L.length
    · have hlen : L.length = L2.length := by have := congrArg List.length HR.out.2.2.1; simpa using this
      obtain ⟨e1, he1⟩ : ∃ e, L[k]? = some e := ⟨_, List.getElem?_eq_getElem hlt⟩
      obtain ⟨e2, he2⟩ : ∃ e, L2[k]? = some e := ⟨_, List.getElem?_eq_getElem (by omega)⟩
      have hkk : e1.1 = e2.1 := by
        have h1 := congrArg (fun x => x[k]?) HR.out.2.2.1
        simp only [List.getElem?_map, he1, he2, Option.map_some] at h1
        injection h1
      obtain ⟨g, rfl, hx⟩ := HR.out.1 (by rintro rfl; simp at hlt)
      obtain ⟨g2, rfl, hx2⟩ := HR.out.2.1 (by rintro rfl; simp at he2)
      obtain ⟨d0, d1⟩ := hx k e1 he1
      obtain ⟨d2, d3⟩ := hx2 k e2 he2
      obtain ⟨A1, c1, q1, hs1⟩ := HR.out.2.2.2.1 e1 (List.mem_of_getElem? he1)
      obtain ⟨A2, c2, q2, hs2⟩ := HR.out.2.2.2.2.1 e2 (List.mem_of_getElem? he2)
      rw [← hkk] at q2 hs2 d2
      have hll := HR.out.2.2.2.2.2 e1.1
      rw [q1] at d1
      rw [q2] at d3
      have b0 := (hbel.out.cell (p := ⟨g, k * 2, none⟩) (World.block_lt_of_cell? _ _ d0)).trans d0
      have b1 := (hbel.out.cell (p := ⟨g, k * 2 + 1, none⟩) (World.block_lt_of_cell? _ _ d1)).trans d1
      have b2 := (hbel.out.cell (p := ⟨g2, k * 2, none⟩) (World.block_lt_of_cell? _ _ d2)).trans d2
      have b3 := (hbel.out.cell (p := ⟨g2, k * 2 + 1, none⟩) (World.block_lt_of_cell? _ _ d3)).trans d3
      have HS := Lib.hid (And.intro (hs1.below hbel.out) (And.intro (hs2.below hbel.out) hll))
      clear d0 d1 d2 d3 hx hx2 q1 q2 hs1 hs2 hll hlen hkk he1 he2
      generalize f e1.1 = l at b1 b3 HS
      generalize e1.1 = ek at b0 b2
      have b2' := Lib.cell?_alloc_some (.cells #[.string ⟨ek.toArray⟩, .slice A1 l.length c1] 51) b2
      have b3' := Lib.cell?_alloc_some (.cells #[.string ⟨ek.toArray⟩, .slice A1 l.length c1] 51) b3
      have hbW : Below wr.heap.size wr ((wr.alloc (.cells #[.string ⟨ek.toArray⟩, .slice A1 l.length c1] 51)).alloc (.cells #[.string ⟨ek.toArray⟩, .slice A2 l.length c2] 51)) := ((Below.refl _ _).alloc (Nat.le_refl _) _).alloc (by simp) _
      have HW := Lib.hid hbW
      clear hbW
      go_wp2_with (go_at_call 24; refine (same1_any ek rfl rfl HS.out.2.2 (HS.out.1.below HW.out) (HS.out.2.1.below HW.out)).mono ?_; rintro e w2 ⟨rfl, hb2⟩; have H2 := Lib.hid hb2; clear hb2)
      go_roundg (gk - 1)
      case measure => omega
      case rel => exact ⟨k + 1, by omega, by go_num, Lib.hid (hbel.out.trans ((HW.out.trans (H2.out.mono HW.out.size)).mono hbel.out.size))⟩
    · go_wp2
      go_ret
      exact ⟨rfl, hbel.out⟩
set_option maxRecDepth 200000 in
theorem sameHeader_any {w : World} {A B : Option Addr} {n m c d : Nat} {L L2 : List (List UInt8 × Value)} {f : List UInt8 → List (List UInt8)} (hn : n = L.length) (hm : m = L.length) (hA : KR w A L) (hB : KR w B L2) (hk : L.map (·.1) = L2.map (·.1))
    (hv : ∀ e ∈ L, ∃ A c, e.2 = .slice A (f e.1).length c ∧ SL w A (f e.1)) (hv2 : ∀ e ∈ L2, ∃ A c, e.2 = .slice A (f e.1).length c ∧ SL w A (f e.1)) (hl : L.length ≤ 100000000) (hl2 : ∀ q, (f q).length ≤ 100000000) :
    Calls Tryd.prog 10 #[.slice A n c, .slice B m d] w fun e w' => e = .returned (.bool true) ∧ Below w.heap.size w w' := by
  have H := Lib.hid (eqHdr_same (c := c) (d := d) hn hm hA hB hk hv hv2 hl hl2)
  clear hn hm hA hB hk hv hv2 hl hl2
  go_enter Tryd.func10, Tryd.ntmps10
  go_wp2_with (go_at_call 23; refine H.out.mono ?_; rintro e w2 ⟨rfl, hb2⟩; have H2 := Lib.hid hb2; clear hb2)
  go_ret
  exact ⟨rfl, H2.out⟩
theorem KR.below {w w' : World} {A : Option Addr} {E : List (List UInt8 × Value)} (h : KR w A E) (hb : Below w.heap.size w w') : KR w' A E := by
  intro hne
  obtain ⟨g, e, hx⟩ := h hne
  refine ⟨g, e, fun i e' he => ?_⟩
  obtain ⟨d0, d1⟩ := hx i e' he
  exact ⟨(hb.cell (p := ⟨g, i * 2, none⟩) (World.block_lt_of_cell? _ _ d0)).trans d0, (hb.cell (p := ⟨g, i * 2 + 1, none⟩) (World.block_lt_of_cell? _ _ d1)).trans d1⟩
end Go.Proofs.YtilhgjcjofobeaaDoor
