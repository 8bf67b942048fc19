/- The walks of a dotWriter's Close, and of the functions that make writers. -/
import Derived.Test.YteiiocibldpioaaDoorWrF
import Derived.Test.YteiiocibldpioaaDoorRdM
import Derived.LaidEqlPtr
namespace Go.Proofs.YteiiocibldpioaaDoor
open Go.RowKit

/-- T has been written. -/
def WW (w : World) (base b p bb : Nat) (N : Nat → Prop) (T : List UInt8) : Prop := ∃ O B, O ++ B = T ∧ Wd w base b p bb N O B
section
variable {w w' : World} {base b p bb t dw st : Nat} {N N' : Nat → Prop} {T T' O B : List UInt8}
theorem SW.less (hN : ∀ k, N k → N' k) {k : Nat} (h : SW base p bb N' k) : SW base p bb N k := by
  rcases h with h | h | h
  · exact .inl ⟨h.1, fun e => h.2 (hN k e)⟩
  · exact .inr (.inl h)
  · exact .inr (.inr h)
theorem Wd.less (h : Wd w base b p bb N' O B) (hN : ∀ k, N k → N' k) (hp : N p) (hb : N bb) : Wd w base b p bb N O B :=
  ⟨h.bf.turn (fun k _ e => hN k e) (fun _ _ _ => rfl), hp, hb, h.pbb, h.bp, h.bbb, h.size, fun k e => h.nw k (hN k e), h.c, h.row, h.le⟩
theorem Wd.more (h : Wd w base b p bb N O B) (hb : Below w.heap.size w w') (hN : ∀ k, N k → N' k) (hN2 : ∀ k, k < w.heap.size → N' k → N k) (hnw : ∀ k, N' k → k < w'.heap.size) : Wd w' base b p bb N' O B := by
  obtain ⟨L, h1, h2⟩ := h.row
  exact ⟨h.bf.turn hN2 (fun k hk _ => hb.block k hk), hN p h.np, hN bb h.nbb, h.pbb, h.bp, h.bbb, Nat.le_trans h.size hb.size, hnw, h.c.same (hb.block p (h.nw p h.np)), ⟨L, h1.same (hb.block bb (h.nw bb h.nbb)), h2⟩, h.le⟩
theorem ww_byte (h : WW w base b p bb N T) (hl : T.length ≤ 140737488355328) (c : UInt8) :
    Calls Tryd.prog 80 #[.pointer (some ⟨p, 0, none⟩), .int .u8 c.toNat] w fun e w' => e = .returned .nilIface ∧ WW w' base b p bb N (T ++ [c]) ∧ Chg (SW base p bb N) w w' := by
  obtain ⟨O, B, rfl, hW⟩ := h
  refine (writeByte_any hW (by rw [← List.length_append]; exact hl) c).mono ?_
  rintro e w' ⟨rfl, h1, h2⟩
  exact ⟨rfl, h1, h2⟩
theorem RB.dot (w : World) (t : TypeId) : RB (w.alloc (.cells #[.int .u8 46, .int .u8 13, .int .u8 10] t)) (some ⟨w.heap.size, 0, none⟩) [46, 13, 10] := by
  intro _
  refine ⟨_, _, rfl, fun i u hu => ?_⟩
  rcases i with _ | _ | _ | i
  · simp at hu; subst hu; simp
  · simp at hu; subst hu; simp
  · simp at hu; subst hu; simp
  · simp at hu
theorem ww_shut (h : WW w base b p bb N T) (hl : T.length + 3 ≤ 140737488355328) (ty : TypeId) :
    Calls Tryd.prog 81 #[.pointer (some ⟨p, 0, none⟩), .slice (some ⟨w.heap.size, 0, none⟩) 3 3] (w.alloc (.cells #[.int .u8 46, .int .u8 13, .int .u8 10] ty)) fun e w' => (∃ v, e = .returned v) ∧ WW w' base b p bb N (T ++ [46, 13, 10]) ∧ Chg (SW base p bb N) w w' := by
  obtain ⟨O, B, rfl, hW⟩ := h
  have hb : Below w.heap.size w (w.alloc (.cells #[.int .u8 46, .int .u8 13, .int .u8 10] ty)) := (Below.refl _ _).alloc (Nat.le_refl _) _
  have hsz : (w.alloc (.cells #[.int .u8 46, .int .u8 13, .int .u8 10] ty)).heap.size = w.heap.size + 1 := World.size_alloc _ _
  have hW' : Wd (w.alloc (.cells #[.int .u8 46, .int .u8 13, .int .u8 10] ty)) base b p bb (fun k => N k ∨ k = w.heap.size) O B := hW.more hb (fun _ e => .inl e) (fun k hk e => by
    rcases e with e | e
    · exact e
    · omega) (fun k e => by
    rw [hsz]
    rcases e with e | e
    · have := hW.nw k e; omega
    · omega)
  refine (wwrite_any hW' (P := [46, 13, 10]) (c := 3) (RB.dot w ty) rfl (by decide) (by decide) (fun g o e => by
    injection e with e; injection e with e _; subst e
    exact ⟨.inr rfl, by have := hW.nw bb hW.nbb; omega, by have := hW.nw p hW.np; omega⟩) (by decide) (by decide) (by simp; simp at hl; omega)).mono ?_
  rintro e w' ⟨h1, ⟨O', B', hT, h2⟩, h3⟩
  exact ⟨h1, ⟨O', B', hT, h2.less (fun _ e => .inl e) hW.np hW.nbb⟩, ((Chg.refl _ w).alloc _).trans (h3.sub (fun k _ e => SW.less (fun _ e => .inl e) e))⟩
theorem ww_flush (h : WW w base b p bb N T) (hl : T.length ≤ 140737488355328) :
    Calls Tryd.prog 42 #[.pointer (some ⟨p, 0, none⟩)] w fun e w' => e = .returned .nilIface ∧ Wd w' base b p bb N T [] ∧ Chg (SW base p bb N) w w' := by
  obtain ⟨O, B, rfl, hW⟩ := h
  exact flush_any hW (by rw [← List.length_append]; exact hl)
end
theorem Tryd.dwInfo : ∃ j, Tryd.prog.info? 102 = some j := Option.isSome_iff_exists.1 (show (Tryd.prog.info? 102).isSome = true by kernel_rfl)
theorem Tryd.eqDw (a : Addr) (w : World) : (binOp .eql 72 (.pointer (some a)) (.pointer (some a))).run Tryd.prog w = .ok (.bool true) w := by
  obtain ⟨j, hj⟩ := Tryd.dwInfo
  exact run_eql_ptr_same w a Tryd.underlying72 hj
/-- What Close leaves. -/
def DwShut (base b p bb t dw : Nat) (N : Nat → Prop) (T : List UInt8) (w : World) (e : Ending) (w' : World) : Prop :=
  (∃ v, e = .returned v) ∧ Wd w' base b p bb N T [] ∧ w'.cell? ⟨t, 0, none⟩ = some (.pointer (some ⟨p, 0, none⟩)) ∧ Chg (SD base p bb t dw N) w w'
theorem Dw.shut {w : World} {base b p bb t dw st : Nat} {N : Nat → Prop} {T : List UInt8} (h : Dw w base b p bb t dw N T st) : WW (w.setCell ⟨t, 1, none⟩ (.pointer none)) base b p bb N T := by
  obtain ⟨O, B, hT, hW⟩ := h.ww
  exact ⟨O, B, hT, hW.turn (World.size_setCell _ _ _) h.lay.nt h.lay.tp h.lay.tb (fun k hk => Below.heap_setCell _ _ _ _ hk)⟩
set_option maxRecDepth 200000 in
set_option maxHeartbeats 12800000 in
theorem dwClose_any {w : World} {base b p bb t dw st : Nat} {N : Nat → Prop} {T : List UInt8} (h : Dw w base b p bb t dw N T st) (hst : st ≤ 3) (hl : T.length + 8 ≤ 140737488355328) :
    Calls Tryd.prog 69 #[.pointer (some ⟨dw, 0, none⟩)] w (DwShut base b p bb t dw N (T ++ wshut st) w) := by
  have a0 : w.cell? ⟨dw, 0, none⟩ = some (.pointer (some ⟨t, 0, none⟩)) := h.dblk.cell 0
  have a1 : w.cell? ⟨dw, 1, none⟩ = some (.int .i64 st) := h.dblk.cell 1
  have t0 : w.cell? ⟨t, 0, none⟩ = some (.pointer (some ⟨p, 0, none⟩)) := h.tblk.cell 0
  have t1 : w.cell? ⟨t, 1, none⟩ = some (.pointer (some ⟨dw, 0, none⟩)) := h.tblk.cell 1
  have ft := h.tblk.free 1
  have htd : ¬ t = dw := h.lay.td
  have hdt : ¬ dw = t := Ne.symm h.lay.td
  have heq := Tryd.eqDw ⟨dw, 0, none⟩
  have hN : N t := h.lay.nt
  have hto := h.lay.t_out
  have htk := h.tblk.set 1 (.pointer none)
  have H := Lib.hid (And.intro h.shut (And.intro hN (And.intro hto htk)))
  have HC := Lib.hid (((Chg.refl (SD base p bb t dw N) w).setCell (p := ⟨t, 1, none⟩) (fun _ => .inr (.inr rfl)) (.pointer none)))
  have hend : ∀ (T2 : List UInt8) (w5 w6 : World) (v : Value), Chg (SW base p bb N) (w.setCell ⟨t, 1, none⟩ (.pointer none)) w5 → Wd w6 base b p bb N T2 [] → Chg (SW base p bb N) w5 w6 → T2 = T ++ wshut st → DwShut base b p bb t dw N (T ++ wshut st) w (.returned v) w6 := by
    rintro T2 w5 w6 v hc1 hW hc2 rfl
    have hc := hc1.trans hc2
    exact ⟨⟨_, rfl⟩, hW, (World.cell?_of_block (w := w.setCell ⟨t, 1, none⟩ (.pointer none)) (a := ⟨t, 0, none⟩) (hc.block t htk.lt hto)).trans (htk.cell 0), HC.out.trans (hc.sub (fun k _ e => .inl e))⟩
  have HE := Lib.hid hend
  clear h hN hto htk hend
  rcases (show st = 0 ∨ st = 1 ∨ st = 2 ∨ st = 3 by omega) with rfl | rfl | rfl | rfl
  · have HB := Lib.hid (ww_byte H.out.1 (by omega) 13)
    go_enter Tryd.func69, Tryd.ntmps69
    go_wp2_with (go_at_call 80; refine HB.out.mono ?_; rintro e w1 ⟨rfl, h1, hC1⟩; have H1 := Lib.hid (And.intro h1 hC1); have HB1 := Lib.hid (ww_byte h1 (by simp; omega) 10); clear h1 hC1; refine Hid.out ?_)
    refine Lib.hid ?_
    go_wp2_with (go_at_call 80; refine HB1.out.mono ?_; rintro e w2 ⟨rfl, h2, hC2⟩; have H2 := Lib.hid (And.intro h2 (H1.out.2.trans hC2)); have HB2 := Lib.hid (ww_shut h2 (by simp; omega) 5); clear h2 hC2; refine Hid.out ?_)
    refine Lib.hid ?_
    go_wp2_with (first
      | (go_at_call 81; refine HB2.out.mono ?_; rintro e w3 ⟨⟨v, rfl⟩, h3, hC3⟩; have H3 := Lib.hid (And.intro h3 (H2.out.2.trans hC3)); have HB3 := Lib.hid (ww_flush h3 (by simp; omega)); clear h3 hC3)
      | (go_at_call 42; refine HB3.out.mono ?_; rintro e w4 ⟨rfl, h4, hC4⟩; have H4 := Lib.hid (And.intro h4 hC4); clear h4 hC4))
    go_ret
    exact HE.out _ _ _ _ H3.out.2 H4.out.1 H4.out.2 (by simp [wshut])
  · have hb2 := ww_shut H.out.1 (by omega) 5
    rw [World.size_setCell] at hb2
    have HB2 := Lib.hid hb2
    clear hb2
    go_enter Tryd.func69, Tryd.ntmps69
    go_wp2_with (first
      | (go_at_call 81; refine HB2.out.mono ?_; rintro e w3 ⟨⟨v, rfl⟩, h3, hC3⟩; have H3 := Lib.hid (And.intro h3 hC3); have HB3 := Lib.hid (ww_flush h3 (by simp; omega)); clear h3 hC3)
      | (go_at_call 42; refine HB3.out.mono ?_; rintro e w4 ⟨rfl, h4, hC4⟩; have H4 := Lib.hid (And.intro h4 hC4); clear h4 hC4))
    go_ret
    exact HE.out _ _ _ _ H3.out.2 H4.out.1 H4.out.2 (by simp [wshut])
  · have HB := Lib.hid (ww_byte H.out.1 (by omega) 10)
    go_enter Tryd.func69, Tryd.ntmps69
    go_wp2_with (go_at_call 80; refine HB.out.mono ?_; rintro e w2 ⟨rfl, h2, hC2⟩; have H2 := Lib.hid (And.intro h2 hC2); have HB2 := Lib.hid (ww_shut h2 (by simp; omega) 5); clear h2 hC2; refine Hid.out ?_)
    refine Lib.hid ?_
    go_wp2_with (first
      | (go_at_call 81; refine HB2.out.mono ?_; rintro e w3 ⟨⟨v, rfl⟩, h3, hC3⟩; have H3 := Lib.hid (And.intro h3 (H2.out.2.trans hC3)); have HB3 := Lib.hid (ww_flush h3 (by simp; omega)); clear h3 hC3)
      | (go_at_call 42; refine HB3.out.mono ?_; rintro e w4 ⟨rfl, h4, hC4⟩; have H4 := Lib.hid (And.intro h4 hC4); clear h4 hC4))
    go_ret
    exact HE.out _ _ _ _ H3.out.2 H4.out.1 H4.out.2 (by simp [wshut])
  · have HB := Lib.hid (ww_byte H.out.1 (by omega) 13)
    go_enter Tryd.func69, Tryd.ntmps69
    go_wp2_with (go_at_call 80; refine HB.out.mono ?_; rintro e w1 ⟨rfl, h1, hC1⟩; have H1 := Lib.hid (And.intro h1 hC1); have HB1 := Lib.hid (ww_byte h1 (by simp; omega) 10); clear h1 hC1; refine Hid.out ?_)
    refine Lib.hid ?_
    go_wp2_with (go_at_call 80; refine HB1.out.mono ?_; rintro e w2 ⟨rfl, h2, hC2⟩; have H2 := Lib.hid (And.intro h2 (H1.out.2.trans hC2)); have HB2 := Lib.hid (ww_shut h2 (by simp; omega) 5); clear h2 hC2; refine Hid.out ?_)
    refine Lib.hid ?_
    go_wp2_with (first
      | (go_at_call 81; refine HB2.out.mono ?_; rintro e w3 ⟨⟨v, rfl⟩, h3, hC3⟩; have H3 := Lib.hid (And.intro h3 (H2.out.2.trans hC3)); have HB3 := Lib.hid (ww_flush h3 (by simp; omega)); clear h3 hC3)
      | (go_at_call 42; refine HB3.out.mono ?_; rintro e w4 ⟨rfl, h4, hC4⟩; have H4 := Lib.hid (And.intro h4 hC4); clear h4 hC4))
    go_ret
    exact HE.out _ _ _ _ H3.out.2 H4.out.1 H4.out.2 (by simp [wshut])
theorem assertW (v : Value) (w : World) : (Instr.typeAssert (.iface 63 v) 99 61 true).run Tryd.prog w = .ok (.tuple #[.pointer none, .bool false]) w :=
  run_assert_not Tryd.underlying61 (fun _ h => by cases h) (by decide) (by kernel_rfl) w
theorem newWriter_any {w : World} {b : Nat} :
    Calls Tryd.prog 40 #[.iface 63 (.pointer (some ⟨b, 0, none⟩))] w fun e w' => e = .returned (.pointer (some ⟨w.heap.size + 1, 0, none⟩)) ∧ w' = (w.alloc (.cells (zeroRow 4096) 5)).alloc (.cells (wcells b w.heap.size 0) 104) := by
  have hmk : ∀ w, (Instr.makeSlice 24 (.int .i64 4096) (.int .i64 4096)).run Tryd.prog w = .ok (.slice (some ⟨w.heap.size, 0, none⟩) 4096 4096) (w.alloc (.cells (zeroRow 4096) 5)) := fun w => Tryd.mkB 4096 (by decide) w
  have ha := fun v w => assertW v w
  go_enter Tryd.func40, Tryd.ntmps40
  go_wp2
  go_ret
  exact ⟨rfl, rfl⟩
theorem newTpWriter_any {w : World} {p : Nat} :
    Calls Tryd.prog 39 #[.pointer (some ⟨p, 0, none⟩)] w fun e w' => e = .returned (.pointer (some ⟨w.heap.size, 0, none⟩)) ∧ w' = w.alloc (.cells #[.pointer (some ⟨p, 0, none⟩), .pointer none] 74) := by
  go_enter Tryd.func39, Tryd.ntmps39
  go_wp2
  go_ret
  exact ⟨rfl, rfl⟩
theorem dotWriter_any {w : World} {t p : Nat} (h : Blk w t #[.pointer (some ⟨p, 0, none⟩), .pointer none] 74) :
    Calls Tryd.prog 41 #[.pointer (some ⟨t, 0, none⟩)] w fun e w' => e = .returned (.iface 72 (.pointer (some ⟨w.heap.size, 0, none⟩))) ∧ w' = (w.setCell ⟨t, 1, none⟩ (.pointer (some ⟨w.heap.size, 0, none⟩))).alloc (.cells #[.pointer (some ⟨t, 0, none⟩), .int .i64 0] 102) := by
  have c1 : w.cell? ⟨t, 1, none⟩ = some (.pointer none) := h.cell 1
  have hl := h.lt
  have c2 : ∀ o, (w.alloc o).cell? ⟨t, 1, none⟩ = some (.pointer none) := fun o => (World.cell?_of_block (a := ⟨t, 1, none⟩) (Below.heap_alloc w o t hl)).trans c1
  have f2 : ∀ o, (w.alloc o).frozen? ⟨t, 1, none⟩ = false := fun o => (World.frozen?_of_block (a := ⟨t, 1, none⟩) (Below.heap_alloc w o t hl)).trans (h.free 1)
  clear h
  go_enter Tryd.func41, Tryd.ntmps41
  go_wp2
  go_ret
  exact ⟨rfl, rfl⟩
end Go.Proofs.YteiiocibldpioaaDoor
