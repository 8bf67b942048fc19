/- The walk of a dotWriter's Write. -/
import Derived.Test.YteiiocibldpioaaDoorWrE
import Derived.Test.YteiiocibldpioaaDoorWdots
namespace Go.Proofs.YteiiocibldpioaaDoor
open Go.RowKit

/-- How a dotWriter's blocks lie. -/
structure DwLay (base p bb t dw : Nat) (N : Nat → Prop) : Prop where
  nt : N t
  nd : N dw
  td : t ≠ dw
  tp : t ≠ p
  tb : t ≠ bb
  dp : dw ≠ p
  db : dw ≠ bb
  bt : base ≤ t
  bd : base ≤ dw
/-- A dotWriter: T has been written, state st. -/
structure Dw (w : World) (base b p bb t dw : Nat) (N : Nat → Prop) (T : List UInt8) (st : Nat) : Prop where
  ww : ∃ O B, O ++ B = T ∧ Wd w base b p bb N O B
  lay : DwLay base p bb t dw N
  tblk : Blk w t #[.pointer (some ⟨p, 0, none⟩), .pointer (some ⟨dw, 0, none⟩)] 74
  dblk : Blk w dw #[.pointer (some ⟨t, 0, none⟩), .int .i64 st] 102
/-- The frame of what a dotWriter does. -/
def SD (base p bb t dw : Nat) (N : Nat → Prop) (k : Nat) : Prop := SW base p bb N k ∨ k = dw ∨ k = t
section
variable {w w' : World} {base b p bb t dw st : Nat} {N : Nat → Prop} {T T' : List UInt8}
theorem DwLay.t_out (h : DwLay base p bb t dw N) : ¬ SW base p bb N t := fun e => by
  rcases e with e | e | e
  · exact e.2 h.nt
  · exact h.tp e
  · exact h.tb e
theorem DwLay.d_out (h : DwLay base p bb t dw N) : ¬ SW base p bb N dw := fun e => by
  rcases e with e | e | e
  · exact e.2 h.nd
  · exact h.dp e
  · exact h.db e
theorem Dw.wrote (h : Dw w base b p bb t dw N T st) (hw : ∃ O B, O ++ B = T' ∧ Wd w' base b p bb N O B) (hC : Chg (SW base p bb N) w w') : Dw w' base b p bb t dw N T' st :=
  ⟨hw, h.lay, h.tblk.same (hC.block t h.tblk.lt h.lay.t_out), h.dblk.same (hC.block dw h.dblk.lt h.lay.d_out)⟩
theorem Wd.turn {O B : List UInt8} (h : Wd w base b p bb N O B) (hs : w'.heap.size = w.heap.size) {j : Nat} (hj : N j) (hp : j ≠ p) (hb : j ≠ bb) (hk : ∀ k, k ≠ j → w'.heap[k]? = w.heap[k]?) : Wd w' base b p bb N O B := by
  obtain ⟨L, h1, h2⟩ := h.row
  exact ⟨h.bf.turn (fun _ _ e => e) (fun k _ hn => hk k (fun e => hn (e ▸ hj))), h.np, h.nbb, h.pbb, h.bp, h.bbb, by rw [hs]; exact h.size, fun k hn => by rw [hs]; exact h.nw k hn, h.c.same (hk p (Ne.symm hp)), ⟨L, h1.same (hk bb (Ne.symm hb)), h2⟩, h.le⟩
theorem Dw.setState (h : Dw w base b p bb t dw N T st) (s2 : Nat) : Dw (w.setCell ⟨dw, 1, none⟩ (.int .i64 s2)) base b p bb t dw N T s2 := by
  have hN : ∀ k, k ≠ dw → (w.setCell ⟨dw, 1, none⟩ (.int .i64 s2)).heap[k]? = w.heap[k]? := fun k hk => Below.heap_setCell _ _ _ _ hk
  obtain ⟨O, B, hT, hW⟩ := h.ww
  exact ⟨⟨O, B, hT, hW.turn (World.size_setCell _ _ _) h.lay.nd h.lay.dp h.lay.db hN⟩, h.lay, h.tblk.same (hN t h.lay.td), h.dblk.set 1 _⟩
theorem dw_byte (h : Dw w base b p bb t dw N T st) (hl : T.length ≤ 140737488355328) (c : UInt8) :
    Calls Tryd.prog 80 #[.pointer (some ⟨p, 0, none⟩), .int .u8 c.toNat] w fun e w' => e = .returned .nilIface ∧ Dw w' base b p bb t dw N (T ++ [c]) st ∧ Chg (SD base p bb t dw N) w w' := by
  obtain ⟨O, B, rfl, hW⟩ := h.ww
  refine (writeByte_any hW (by rw [← List.length_append]; exact hl) c).mono ?_
  rintro e w' ⟨rfl, ⟨O', B', hT, hW'⟩, hC⟩
  exact ⟨rfl, h.wrote ⟨O', B', hT, hW'⟩ hC, hC.sub (fun k _ e => .inl e)⟩
theorem wrun_le' (D : List UInt8) : ∀ s, (wrun s D).length ≤ 3 * D.length := by
  induction D with
  | nil => intro s; simp [wrun]
  | cons c t ih =>
    intro s
    have h1 : (wstep s c).1.length ≤ 3 := by
      unfold wstep
      repeat' split
      all_goals simp
    have := ih (wstep s c).2
    simp only [wrun, List.length_append, List.length_cons]
    omega
theorem byte_ne' {c : UInt8} (d : UInt8) (h : c ≠ d) : ((c.toNat : Int) == (d.toNat : Int)) = false := by
  rw [beq_eq_false_iff_ne]
  exact fun e => h ((byte_eq_iff c d).1 e)
theorem dw_next {D : List UInt8} {k s st : Nat} {c : UInt8} (hc : D[k]? = some c) (hs : s = wlast st (D.take k)) : wrun st (D.take (k + 1)) = wrun st (D.take k) ++ (wstep s c).1 ∧ wlast st (D.take (k + 1)) = (wstep s c).2 := by
  rw [List.take_add_one, hc, wrun_app, wlast_app, ← hs]
  simp [wrun, wlast]
theorem wrun_take_le (D : List UInt8) (st k : Nat) : (wrun st (D.take k)).length ≤ 3 * D.length := by
  have h1 := wrun_le' (D.take k) st
  have h2 : (D.take k).length ≤ D.length := by rw [List.length_take]; omega
  omega
theorem wlast_le3 (D : List UInt8) : ∀ st, st ≤ 3 → wlast st D ≤ 3 := by
  induction D with
  | nil => intro st h; exact h
  | cons c t ih =>
    intro st h
    refine ih _ ?_
    unfold wstep
    repeat' split
    all_goals simp
/-- The loop's relation. -/
def DwRel (base b p bb t dw : Nat) (N : Nat → Prop) (T D : List UInt8) (st : Nat) (w : World) (gk : Nat) (u4 u5 : Value) (wr : World) : Prop :=
  ∃ k : Nat, k + gk = D.length ∧ u4 = .int .i64 k ∧ u5 = .nilIface ∧ Dw wr base b p bb t dw N (T ++ wrun st (D.take k)) (wlast st (D.take k)) ∧ Chg (SD base p bb t dw N) w wr
theorem DwRel.next {D : List UInt8} {s k gk : Nat} {c : UInt8} {T1 T2 : List UInt8} {s2 : Nat} {u4 : Value} (hc : D[k]? = some c) (hs : s = wlast st (D.take k)) (hT1 : T1 = T ++ wrun st (D.take k)) (hw : wstep s c = (T2, s2)) (hk : k + 1 + gk = D.length) (hD : Dw w' base b p bb t dw N (T1 ++ T2) s2) (hC : Chg (SD base p bb t dw N) w w') (hu : u4 = .int .i64 (k + 1 : Nat)) : DwRel base b p bb t dw N T D st w gk u4 .nilIface w' := by
  obtain ⟨h1, h2⟩ := dw_next hc hs
  refine ⟨k + 1, hk, hu, rfl, ?_, hC⟩
  rw [h1, h2, hw, ← List.append_assoc, ← hT1]
  exact hD
set_option maxRecDepth 200000 in
set_option maxHeartbeats 25600000 in
theorem dwWrite_any (h : Dw w base b p bb t dw N T st) (hst : st ≤ 3) {A : Option Addr} {n c : Nat} {D : List UInt8} (hr : RB w A D) (hn : n = D.length) (hA : ∀ g o, A = some ⟨g, o, none⟩ → N g ∧ g ≠ bb ∧ g ≠ p ∧ g ≠ dw ∧ g ≠ t) (hlim : T.length + 3 * D.length + 3 ≤ 140737488355328) :
    Calls Tryd.prog 115 #[.pointer (some ⟨dw, 0, none⟩), .slice A n c] w fun e w' => (∃ v, e = .returned v) ∧ Dw w' base b p bb t dw N (T ++ wrun st D) (wlast st D) ∧ Chg (SD base p bb t dw N) w w' := by
  subst hn
  have a0 : w.cell? ⟨dw, 0, none⟩ = some (.pointer (some ⟨t, 0, none⟩)) := h.dblk.cell 0
  have t0 : w.cell? ⟨t, 0, none⟩ = some (.pointer (some ⟨p, 0, none⟩)) := h.tblk.cell 0
  have H := Lib.hid (And.intro h (And.intro hr hA))
  clear h hr hA
  have hDl : D.length ≤ 140737488355328 := by omega
  go_enter Tryd.func115, Tryd.ntmps115
  go_wp2
  go_loopg [4, 5, 7] D.length (fun gk u4 u5 _ wr => DwRel base b p bb t dw N T D st w gk u4 u5 wr)
  case atStart => exact ⟨0, by omega, rfl, rfl, by rw [List.take_zero]; simpa [wrun, wlast] using H.out.1, Chg.refl _ _⟩
  case round =>
    obtain ⟨k, hk, rfl, rfl, hD, hC⟩ := hrel
    by_cases hlt : k < D.length
    · obtain ⟨c1, hc1⟩ : ∃ c1, D[k]? = some c1 := ⟨_, List.getElem?_eq_getElem hlt⟩
      obtain ⟨g, o, rfl, hx⟩ := H.out.2.1 (by rintro rfl; simp at hlt)
      obtain ⟨hNg, hgb, hgp, hgd, hgt⟩ := H.out.2.2 g o rfl
      have gcell : wr.cell? ⟨g, o + k, none⟩ = some (.int .u8 c1.toNat) := (World.cell?_of_block (w := w) (a := ⟨g, o + k, none⟩) (hC.block g (World.block_lt_of_cell? _ _ (hx k c1 hc1)) (fun e => by
        rcases e with e | e | e
        · rcases e with e | e | e
          · exact e.2 hNg
          · exact hgp e
          · exact hgb e
        · exact hgd e
        · exact hgt e))).trans (hx k c1 hc1)
      have hwl := wrun_take_le D st k
      obtain ⟨s, hs⟩ : ∃ s, s = wlast st (D.take k) := ⟨_, rfl⟩
      obtain ⟨T1, hT1⟩ : ∃ T1, T1 = T ++ wrun st (D.take k) := ⟨_, rfl⟩
      have hs3 : s ≤ 3 := by rw [hs]; exact wlast_le3 _ _ hst
      have hl1 : T1.length + 3 ≤ 140737488355328 := by rw [hT1, List.length_append]; omega
      rw [← hs, ← hT1] at hD
      have a1 : wr.cell? ⟨dw, 1, none⟩ = some (.int .i64 s) := hD.dblk.cell 1
      have f1 := hD.dblk.free 1
      have HK := Lib.hid (And.intro hc1 (And.intro hs (And.intro hT1 hC)))
      clear hx hwl hC
      rcases (show s = 0 ∨ s = 1 ∨ s = 2 ∨ s = 3 by omega) with rfl | rfl | rfl | rfl
      · -- state 0
        by_cases h46 : c1 = 46
        · subst h46
          have HD0 := Lib.hid hD
          clear hD hc1 hs hT1 hs3
          have HB0 := Lib.hid (And.intro (dw_byte (HD0.out.setState 3) (by omega) 46) (HK.out.2.2.2.setCell (p := ⟨dw, 1, none⟩) (fun _ => .inr (.inl rfl)) (.int .i64 3)))
          go_wp2_with (go_at_call 80; refine HB0.out.1.mono ?_; rintro e w1 ⟨rfl, hD1, hC1⟩; have e1 := hD1.dblk.cell 1; have fe1 := hD1.dblk.free 1; have HB1 := Lib.hid (And.intro (dw_byte hD1 (by simp only [List.length_append, List.length_cons, List.length_nil]; omega) 46) (HB0.out.2.trans hC1)); replace e1 : w1.cell? ⟨dw, 1, none⟩ = some (.int .i64 3) := e1; clear hD1 hC1; refine Hid.out ?_)
          refine Lib.hid ?_
          go_wp2_with (go_at_call 80; refine HB1.out.1.mono ?_; rintro e w2 ⟨rfl, hD2, hC2⟩; have HF := Lib.hid (And.intro hD2 (HB1.out.2.trans hC2)); clear hD2 hC2; refine Hid.out ?_)
          refine Lib.hid ?_
          go_wp2
          go_roundg (gk - 1)
          case measure => omega
          case rel =>
            have hD := HF.out.1
            rw [List.append_assoc] at hD
            exact DwRel.next (s := 0) (T2 := [46, 46]) (s2 := 3) HK.out.1 HK.out.2.1 HK.out.2.2.1 (by rfl) (by omega) hD HF.out.2 (by go_num)
        by_cases h13 : c1 = 13
        · subst h13
          have HD0 := Lib.hid hD
          clear hD hc1 hs hT1 hs3
          have HB0 := Lib.hid (And.intro (dw_byte ((HD0.out.setState 3).setState 2) (by omega) 13) ((HK.out.2.2.2.setCell (p := ⟨dw, 1, none⟩) (fun _ => .inr (.inl rfl)) (.int .i64 3)).setCell (p := ⟨dw, 1, none⟩) (fun _ => .inr (.inl rfl)) (.int .i64 2)))
          go_wp2_with (go_at_call 80; refine HB0.out.1.mono ?_; rintro e w1 ⟨rfl, hD1, hC1⟩; have HF := Lib.hid (And.intro hD1 (HB0.out.2.trans hC1)); clear hD1 hC1; refine Hid.out ?_)
          refine Lib.hid ?_
          go_wp2
          go_roundg (gk - 1)
          case measure => omega
          case rel =>
            have hD := HF.out.1
            exact DwRel.next (s := 0) (T2 := [13]) (s2 := 2) HK.out.1 HK.out.2.1 HK.out.2.2.1 (by rfl) (by omega) hD HF.out.2 (by go_num)
        by_cases h10 : c1 = 10
        · subst h10
          have HD0 := Lib.hid hD
          clear hD hc1 hs hT1 hs3
          have HB0 := Lib.hid (And.intro (dw_byte (HD0.out.setState 3) (by omega) 13) (HK.out.2.2.2.setCell (p := ⟨dw, 1, none⟩) (fun _ => .inr (.inl rfl)) (.int .i64 3)))
          go_wp2_with (go_at_call 80; refine HB0.out.1.mono ?_; rintro e w1 ⟨rfl, hD1, hC1⟩; have e1 := hD1.dblk.cell 1; have fe1 := hD1.dblk.free 1; have HB1 := Lib.hid (And.intro (dw_byte (hD1.setState 1) (by simp only [List.length_append, List.length_cons, List.length_nil]; omega) 10) ((HB0.out.2.trans hC1).setCell (p := ⟨dw, 1, none⟩) (fun _ => .inr (.inl rfl)) (.int .i64 1))); replace e1 : w1.cell? ⟨dw, 1, none⟩ = some (.int .i64 3) := e1; clear hD1 hC1; refine Hid.out ?_)
          refine Lib.hid ?_
          go_wp2_with (go_at_call 80; refine HB1.out.1.mono ?_; rintro e w2 ⟨rfl, hD2, hC2⟩; have HF := Lib.hid (And.intro hD2 (HB1.out.2.trans hC2)); clear hD2 hC2; refine Hid.out ?_)
          refine Lib.hid ?_
          go_wp2
          go_roundg (gk - 1)
          case measure => omega
          case rel =>
            have hD := HF.out.1
            rw [List.append_assoc] at hD
            exact DwRel.next (s := 0) (T2 := [13, 10]) (s2 := 1) HK.out.1 HK.out.2.1 HK.out.2.2.1 (by rfl) (by omega) hD HF.out.2 (by go_num)
        have n46 : ((c1.toNat : Int) == 46) = false := byte_ne' 46 h46
        have n13 : ((c1.toNat : Int) == 13) = false := byte_ne' 13 h13
        have n10 : ((c1.toNat : Int) == 10) = false := byte_ne' 10 h10
        have HN := Lib.hid (And.intro h46 (And.intro h13 h10))
        clear h46 h13 h10
        have HD0 := Lib.hid hD
        clear hD hc1 hs hT1 hs3
        have HB0 := Lib.hid (And.intro (dw_byte (HD0.out.setState 3) (by omega) c1) (HK.out.2.2.2.setCell (p := ⟨dw, 1, none⟩) (fun _ => .inr (.inl rfl)) (.int .i64 3)))
        go_wp2_with (go_at_call 80; refine HB0.out.1.mono ?_; rintro e w1 ⟨rfl, hD1, hC1⟩; have HF := Lib.hid (And.intro hD1 (HB0.out.2.trans hC1)); clear hD1 hC1; refine Hid.out ?_)
        refine Lib.hid ?_
        go_wp2
        go_roundg (gk - 1)
        case measure => omega
        case rel =>
          have hD := HF.out.1
          exact DwRel.next (s := 0) (T2 := [c1]) (s2 := 3) HK.out.1 HK.out.2.1 HK.out.2.2.1 (by simp [wstep, HN.out.1, HN.out.2.1, HN.out.2.2]) (by omega) hD HF.out.2 (by go_num)
      · -- state 1
        by_cases h46 : c1 = 46
        · subst h46
          have HD0 := Lib.hid hD
          clear hD hc1 hs hT1 hs3
          have HB0 := Lib.hid (And.intro (dw_byte (HD0.out.setState 3) (by omega) 46) (HK.out.2.2.2.setCell (p := ⟨dw, 1, none⟩) (fun _ => .inr (.inl rfl)) (.int .i64 3)))
          go_wp2_with (go_at_call 80; refine HB0.out.1.mono ?_; rintro e w1 ⟨rfl, hD1, hC1⟩; have e1 := hD1.dblk.cell 1; have fe1 := hD1.dblk.free 1; have HB1 := Lib.hid (And.intro (dw_byte hD1 (by simp only [List.length_append, List.length_cons, List.length_nil]; omega) 46) (HB0.out.2.trans hC1)); replace e1 : w1.cell? ⟨dw, 1, none⟩ = some (.int .i64 3) := e1; clear hD1 hC1; refine Hid.out ?_)
          refine Lib.hid ?_
          go_wp2_with (go_at_call 80; refine HB1.out.1.mono ?_; rintro e w2 ⟨rfl, hD2, hC2⟩; have HF := Lib.hid (And.intro hD2 (HB1.out.2.trans hC2)); clear hD2 hC2; refine Hid.out ?_)
          refine Lib.hid ?_
          go_wp2
          go_roundg (gk - 1)
          case measure => omega
          case rel =>
            have hD := HF.out.1
            rw [List.append_assoc] at hD
            exact DwRel.next (s := 1) (T2 := [46, 46]) (s2 := 3) HK.out.1 HK.out.2.1 HK.out.2.2.1 (by rfl) (by omega) hD HF.out.2 (by go_num)
        by_cases h13 : c1 = 13
        · subst h13
          have HD0 := Lib.hid hD
          clear hD hc1 hs hT1 hs3
          have HB0 := Lib.hid (And.intro (dw_byte ((HD0.out.setState 3).setState 2) (by omega) 13) ((HK.out.2.2.2.setCell (p := ⟨dw, 1, none⟩) (fun _ => .inr (.inl rfl)) (.int .i64 3)).setCell (p := ⟨dw, 1, none⟩) (fun _ => .inr (.inl rfl)) (.int .i64 2)))
          go_wp2_with (go_at_call 80; refine HB0.out.1.mono ?_; rintro e w1 ⟨rfl, hD1, hC1⟩; have HF := Lib.hid (And.intro hD1 (HB0.out.2.trans hC1)); clear hD1 hC1; refine Hid.out ?_)
          refine Lib.hid ?_
          go_wp2
          go_roundg (gk - 1)
          case measure => omega
          case rel =>
            have hD := HF.out.1
            exact DwRel.next (s := 1) (T2 := [13]) (s2 := 2) HK.out.1 HK.out.2.1 HK.out.2.2.1 (by rfl) (by omega) hD HF.out.2 (by go_num)
        by_cases h10 : c1 = 10
        · subst h10
          have HD0 := Lib.hid hD
          clear hD hc1 hs hT1 hs3
          have HB0 := Lib.hid (And.intro (dw_byte (HD0.out.setState 3) (by omega) 13) (HK.out.2.2.2.setCell (p := ⟨dw, 1, none⟩) (fun _ => .inr (.inl rfl)) (.int .i64 3)))
          go_wp2_with (go_at_call 80; refine HB0.out.1.mono ?_; rintro e w1 ⟨rfl, hD1, hC1⟩; have e1 := hD1.dblk.cell 1; have fe1 := hD1.dblk.free 1; have HB1 := Lib.hid (And.intro (dw_byte (hD1.setState 1) (by simp only [List.length_append, List.length_cons, List.length_nil]; omega) 10) ((HB0.out.2.trans hC1).setCell (p := ⟨dw, 1, none⟩) (fun _ => .inr (.inl rfl)) (.int .i64 1))); replace e1 : w1.cell? ⟨dw, 1, none⟩ = some (.int .i64 3) := e1; clear hD1 hC1; refine Hid.out ?_)
          refine Lib.hid ?_
          go_wp2_with (go_at_call 80; refine HB1.out.1.mono ?_; rintro e w2 ⟨rfl, hD2, hC2⟩; have HF := Lib.hid (And.intro hD2 (HB1.out.2.trans hC2)); clear hD2 hC2; refine Hid.out ?_)
          refine Lib.hid ?_
          go_wp2
          go_roundg (gk - 1)
          case measure => omega
          case rel =>
            have hD := HF.out.1
            rw [List.append_assoc] at hD
            exact DwRel.next (s := 1) (T2 := [13, 10]) (s2 := 1) HK.out.1 HK.out.2.1 HK.out.2.2.1 (by rfl) (by omega) hD HF.out.2 (by go_num)
        have n46 : ((c1.toNat : Int) == 46) = false := byte_ne' 46 h46
        have n13 : ((c1.toNat : Int) == 13) = false := byte_ne' 13 h13
        have n10 : ((c1.toNat : Int) == 10) = false := byte_ne' 10 h10
        have HN := Lib.hid (And.intro h46 (And.intro h13 h10))
        clear h46 h13 h10
        have HD0 := Lib.hid hD
        clear hD hc1 hs hT1 hs3
        have HB0 := Lib.hid (And.intro (dw_byte (HD0.out.setState 3) (by omega) c1) (HK.out.2.2.2.setCell (p := ⟨dw, 1, none⟩) (fun _ => .inr (.inl rfl)) (.int .i64 3)))
        go_wp2_with (go_at_call 80; refine HB0.out.1.mono ?_; rintro e w1 ⟨rfl, hD1, hC1⟩; have HF := Lib.hid (And.intro hD1 (HB0.out.2.trans hC1)); clear hD1 hC1; refine Hid.out ?_)
        refine Lib.hid ?_
        go_wp2
        go_roundg (gk - 1)
        case measure => omega
        case rel =>
          have hD := HF.out.1
          exact DwRel.next (s := 1) (T2 := [c1]) (s2 := 3) HK.out.1 HK.out.2.1 HK.out.2.2.1 (by simp [wstep, HN.out.1, HN.out.2.1, HN.out.2.2]) (by omega) hD HF.out.2 (by go_num)
      · -- state 2
        by_cases h10 : c1 = 10
        · subst h10
          have HD0 := Lib.hid hD
          clear hD hc1 hs hT1 hs3
          have HB0 := Lib.hid (And.intro (dw_byte ((HD0.out.setState 3).setState 1) (by omega) 10) ((HK.out.2.2.2.setCell (p := ⟨dw, 1, none⟩) (fun _ => .inr (.inl rfl)) (.int .i64 3)).setCell (p := ⟨dw, 1, none⟩) (fun _ => .inr (.inl rfl)) (.int .i64 1)))
          go_wp2_with (go_at_call 80; refine HB0.out.1.mono ?_; rintro e w1 ⟨rfl, hD1, hC1⟩; have HF := Lib.hid (And.intro hD1 (HB0.out.2.trans hC1)); clear hD1 hC1; refine Hid.out ?_)
          refine Lib.hid ?_
          go_wp2
          go_roundg (gk - 1)
          case measure => omega
          case rel =>
            have hD := HF.out.1
            exact DwRel.next (s := 2) (T2 := [10]) (s2 := 1) HK.out.1 HK.out.2.1 HK.out.2.2.1 (by rfl) (by omega) hD HF.out.2 (by go_num)
        have n10 : ((c1.toNat : Int) == 10) = false := byte_ne' 10 h10
        have HN := Lib.hid h10
        clear h10
        have HD0 := Lib.hid hD
        clear hD hc1 hs hT1 hs3
        have HB0 := Lib.hid (And.intro (dw_byte (HD0.out.setState 3) (by omega) c1) (HK.out.2.2.2.setCell (p := ⟨dw, 1, none⟩) (fun _ => .inr (.inl rfl)) (.int .i64 3)))
        go_wp2_with (go_at_call 80; refine HB0.out.1.mono ?_; rintro e w1 ⟨rfl, hD1, hC1⟩; have HF := Lib.hid (And.intro hD1 (HB0.out.2.trans hC1)); clear hD1 hC1; refine Hid.out ?_)
        refine Lib.hid ?_
        go_wp2
        go_roundg (gk - 1)
        case measure => omega
        case rel =>
          have hD := HF.out.1
          exact DwRel.next (s := 2) (T2 := [c1]) (s2 := 3) HK.out.1 HK.out.2.1 HK.out.2.2.1 (by simp [wstep, HN.out]) (by omega) hD HF.out.2 (by go_num)
      · -- state 3
        by_cases h13 : c1 = 13
        · subst h13
          have HD0 := Lib.hid hD
          clear hD hc1 hs hT1 hs3
          have HB0 := Lib.hid (And.intro (dw_byte (HD0.out.setState 2) (by omega) 13) (HK.out.2.2.2.setCell (p := ⟨dw, 1, none⟩) (fun _ => .inr (.inl rfl)) (.int .i64 2)))
          go_wp2_with (go_at_call 80; refine HB0.out.1.mono ?_; rintro e w1 ⟨rfl, hD1, hC1⟩; have HF := Lib.hid (And.intro hD1 (HB0.out.2.trans hC1)); clear hD1 hC1; refine Hid.out ?_)
          refine Lib.hid ?_
          go_wp2
          go_roundg (gk - 1)
          case measure => omega
          case rel =>
            have hD := HF.out.1
            exact DwRel.next (s := 3) (T2 := [13]) (s2 := 2) HK.out.1 HK.out.2.1 HK.out.2.2.1 (by rfl) (by omega) hD HF.out.2 (by go_num)
        by_cases h10 : c1 = 10
        · subst h10
          have HD0 := Lib.hid hD
          clear hD hc1 hs hT1 hs3
          have HB0 := Lib.hid (And.intro (dw_byte HD0.out (by omega) 13) HK.out.2.2.2)
          go_wp2_with (go_at_call 80; refine HB0.out.1.mono ?_; rintro e w1 ⟨rfl, hD1, hC1⟩; have e1 := hD1.dblk.cell 1; have fe1 := hD1.dblk.free 1; have HB1 := Lib.hid (And.intro (dw_byte (hD1.setState 1) (by simp only [List.length_append, List.length_cons, List.length_nil]; omega) 10) ((HB0.out.2.trans hC1).setCell (p := ⟨dw, 1, none⟩) (fun _ => .inr (.inl rfl)) (.int .i64 1))); replace e1 : w1.cell? ⟨dw, 1, none⟩ = some (.int .i64 3) := e1; clear hD1 hC1; refine Hid.out ?_)
          refine Lib.hid ?_
          go_wp2_with (go_at_call 80; refine HB1.out.1.mono ?_; rintro e w2 ⟨rfl, hD2, hC2⟩; have HF := Lib.hid (And.intro hD2 (HB1.out.2.trans hC2)); clear hD2 hC2; refine Hid.out ?_)
          refine Lib.hid ?_
          go_wp2
          go_roundg (gk - 1)
          case measure => omega
          case rel =>
            have hD := HF.out.1
            rw [List.append_assoc] at hD
            exact DwRel.next (s := 3) (T2 := [13, 10]) (s2 := 1) HK.out.1 HK.out.2.1 HK.out.2.2.1 (by rfl) (by omega) hD HF.out.2 (by go_num)
        have n13 : ((c1.toNat : Int) == 13) = false := byte_ne' 13 h13
        have n10 : ((c1.toNat : Int) == 10) = false := byte_ne' 10 h10
        have HN := Lib.hid (And.intro h13 h10)
        clear h13 h10
        have HD0 := Lib.hid hD
        clear hD hc1 hs hT1 hs3
        have HB0 := Lib.hid (And.intro (dw_byte HD0.out (by omega) c1) HK.out.2.2.2)
        go_wp2_with (go_at_call 80; refine HB0.out.1.mono ?_; rintro e w1 ⟨rfl, hD1, hC1⟩; have HF := Lib.hid (And.intro hD1 (HB0.out.2.trans hC1)); clear hD1 hC1; refine Hid.out ?_)
        refine Lib.hid ?_
        go_wp2
        go_roundg (gk - 1)
        case measure => omega
        case rel =>
          have hD := HF.out.1
          exact DwRel.next (s := 3) (T2 := [c1]) (s2 := 3) HK.out.1 HK.out.2.1 HK.out.2.2.1 (by simp [wstep, HN.out.1, HN.out.2]) (by omega) hD HF.out.2 (by go_num)
    · have htk : D.take k = D := List.take_of_length_le (by omega)
      rw [htk] at hD
      have hki : ¬ (k : Int) < (D.length : Int) := by omega
      have HE := Lib.hid (And.intro hD hC)
      clear hD hC htk
      go_wp2
      go_ret2
      exact ⟨⟨_, rfl⟩, HE.out.1, HE.out.2⟩
end
end Go.Proofs.YteiiocibldpioaaDoor
