/- The walk of impl.DotWrite. -/
import Derived.Test.YteiiocibldpioaaDoorWrG
import Derived.Test.YteiiocibldpioaaDoorOpenR
import Derived.Test.YteiiocibldpioaaDoorWdLaw
import Derived.Test.YteiiocibldpioaaDoorAhead
import Derived.Deep.RegionHeld3
import Derived.Lib.AppendZeros
namespace Go.Proofs.YteiiocibldpioaaDoor
open Go.RowKit

theorem Tryd.aheadRowW : ((Tryd.prog.info? 72).bind fun j => (j.methods.find? (·.name == "Write")).map fun m => (m.path.toList, m.func)) = some ([], some (115, true)) := by kernel_rfl
theorem Tryd.aheadW (k : Nat) (a : Addr) (w : World) : (nilAhead (k + 1) 72 (.pointer (some a)) "Write").run Tryd.prog w = .ok (some false) w := by
  have h := Tryd.aheadRowW
  cases hj : Tryd.prog.info? 72 with
  | none => rw [hj] at h; cases h
  | some j =>
    rw [hj, Option.bind_some] at h
    cases hm : j.methods.find? (·.name == "Write") with
    | none => rw [hm] at h; cases h
    | some m =>
      rw [hm] at h
      simp only [Option.map_some, Option.some.injEq, Prod.mk.injEq] at h
      exact nilAhead_of hj hm h.1 h.2 k w
section
variable {w w' : World} {base b p bb t dw st : Nat} {N N' : Nat → Prop} {T : List UInt8}
theorem SD_ge (h : Dw w base b p bb t dw N T st) {k : Nat} (hk : SD base p bb t dw N' k) : base ≤ k := by
  obtain ⟨O, B, _, hW⟩ := h.ww
  rcases hk with (hk | rfl | rfl) | rfl | rfl
  · exact hk.1
  · exact hW.bp
  · exact hW.bbb
  · exact h.lay.bd
  · exact h.lay.bt
theorem Dw.size (h : Dw w base b p bb t dw N T st) : base ≤ w.heap.size := by
  obtain ⟨O, B, _, hW⟩ := h.ww
  exact hW.size
theorem Dw.less (h : Dw w base b p bb t dw N' T st) (hl : DwLay base p bb t dw N) (hN : ∀ k, N k → N' k) (hp : N p) (hb : N bb) : Dw w base b p bb t dw N T st := by
  obtain ⟨O, B, hT, hW⟩ := h.ww
  exact ⟨⟨O, B, hT, hW.less hN hp hb⟩, hl, h.tblk, h.dblk⟩
theorem Dw.more (h : Dw w base b p bb t dw N T st) (hb : Below w.heap.size w w') (hN : ∀ k, N k → N' k) (hN2 : ∀ k, k < w.heap.size → N' k → N k) (hnw : ∀ k, N' k → k < w'.heap.size) : Dw w' base b p bb t dw N' T st := by
  obtain ⟨O, B, hT, hW⟩ := h.ww
  have hl := h.lay
  exact ⟨⟨O, B, hT, hW.more hb hN hN2 hnw⟩, ⟨hN _ hl.nt, hN _ hl.nd, hl.td, hl.tp, hl.tb, hl.dp, hl.db, hl.bt, hl.bd⟩, h.tblk.same (hb.block t h.tblk.lt), h.dblk.same (hb.block dw h.dblk.lt)⟩
theorem Dw.nw (h : Dw w base b p bb t dw N T st) : (∀ k, N k → k < w.heap.size) ∧ N p ∧ N bb := by
  obtain ⟨O, B, hT, hW⟩ := h.ww
  exact ⟨hW.nw, hW.np, hW.nbb⟩
theorem dw_first {w : World} {b p bb t dw : Nat} (hb : w.heap.size = b) (hbb : bb = b + 1) (hp : p = b + 2) (ht : t = b + 3) (hd : dw = b + 4) {w1 w2 w3 w4 : World} (h1 : w1 = w.alloc (.cells #[.slice none 0 0, .int .i64 0, .int .i8 0] 58)) (h2 : w2 = (w1.alloc (.cells (zeroRow 4096) 5)).alloc (.cells (wcells b bb 0) 104))
    (h3 : w3 = w2.alloc (.cells #[.pointer (some ⟨p, 0, none⟩), .pointer none] 74)) (h4 : w4 = (w3.setCell ⟨t, 1, none⟩ (.pointer (some ⟨dw, 0, none⟩))).alloc (.cells #[.pointer (some ⟨t, 0, none⟩), .int .i64 0] 102)) :
    Dw w4 b b p bb t dw (fun k => k = p ∨ k = bb ∨ k = t ∨ k = dw) [] 0 ∧ Below b w w4 := by
  have z1 : w1.heap.size = b + 1 := by rw [h1, World.size_alloc, hb]
  have z2 : w2.heap.size = b + 3 := by rw [h2, World.size_alloc, World.size_alloc, z1]
  have z3 : w3.heap.size = b + 4 := by rw [h3, World.size_alloc, z2]
  have z3s : (w3.setCell ⟨t, 1, none⟩ (.pointer (some ⟨dw, 0, none⟩))).heap.size = b + 4 := by rw [World.size_setCell, z3]
  have z4 : w4.heap.size = b + 5 := by rw [h4, World.size_alloc, z3s]
  have B1 : Below b w w1 := by rw [h1]; exact (Below.refl _ _).alloc (by omega) _
  have B2 : Below (b + 1) w1 w2 := by rw [h2]; exact ((Below.refl _ _).alloc (by omega) _).alloc (by rw [World.size_alloc, z1]; omega) _
  have B3 : Below (b + 3) w2 w3 := by rw [h3]; exact (Below.refl _ _).alloc (by omega) _
  have B4 : Below (b + 3) w3 w4 := by rw [h4]; exact ((Below.refl _ _).setCell (p := ⟨t, 1, none⟩) (by show b + 3 ≤ t; omega) _).alloc (by rw [z3s]; omega) _
  have B24 := B3.trans B4
  have k1 : Blk w1 b #[.slice none 0 0, .int .i64 0, .int .i8 0] 58 := by rw [h1, ← hb]; exact Blk.new _ _ _
  have kr : Blk w2 bb (zeroRow 4096) 5 := by rw [h2, hbb, ← z1]; exact (Blk.new w1 _ _).alloc _
  have kp : Blk w2 p (wcells b bb 0) 104 := by
    have := Blk.new (w1.alloc (.cells (zeroRow 4096) 5)) (wcells b bb 0) 104
    rw [World.size_alloc, z1] at this
    rw [h2, hp]
    exact this
  have kt : Blk w3 t #[.pointer (some ⟨p, 0, none⟩), .pointer none] 74 := by rw [h3, ht, ← z2]; exact Blk.new _ _ _
  have kt4 : Blk w4 t #[.pointer (some ⟨p, 0, none⟩), .pointer (some ⟨dw, 0, none⟩)] 74 := by rw [h4]; exact (kt.set 1 _).alloc _
  have kd : Blk w4 dw #[.pointer (some ⟨t, 0, none⟩), .int .i64 0] 102 := by
    have := Blk.new (w3.setCell ⟨t, 1, none⟩ (.pointer (some ⟨dw, 0, none⟩))) #[.pointer (some ⟨t, 0, none⟩), .int .i64 0] 102
    rw [z3s, ← hd] at this
    rw [h4]
    exact this
  refine ⟨⟨⟨[], [], rfl, ⟨⟨Nat.le_refl _, (fun e => by rcases e with e | e | e | e <;> omega), 0, .inl ⟨rfl, (k1.same (B2.block b (by omega))).same (B24.block b (by omega))⟩⟩, .inl rfl, .inr (.inl rfl), by omega, by omega, by omega, by omega, (fun k e => by rcases e with e | e | e | e <;> omega), kp.same (B24.block p (by omega)), ⟨_, RowB.zero (kr.same (B24.block bb (by omega))), rfl⟩, by simp⟩⟩, ⟨.inr (.inr (.inl rfl)), .inr (.inr (.inr rfl)), by omega, by omega, by omega, by omega, by omega, by omega, by omega⟩, kt4, kd⟩, (B1.trans (B2.mono (by omega))).trans (B24.mono (by omega))⟩
end
/-- What impl.DotWrite leaves. -/
def DotWriteEnd (D : List UInt8) (w : World) (e : Ending) (w' : World) : Prop :=
  (∃ A c, e = .returned (.slice A (wall D).length c) ∧ (wall D).length ≤ c ∧ c ≤ 9223372036854775807 ∧ RB w' A (wall D)) ∧ Below w.heap.size w w'
/-- The loop's relation. -/
def DWLoop (b p bb t dw : Nat) (N : Nat → Prop) (ds : List (List UInt8)) (w : World) (gk : Nat) (u15 : Value) (wr : World) : Prop :=
  ∃ k : Nat, k + gk = ds.length ∧ u15 = .int .i64 k ∧ Dw wr b b p bb t dw N (wrun 0 (ds.take k).flatten) (wlast 0 (ds.take k).flatten) ∧ Below b w wr
theorem flat_take (ds : List (List UInt8)) (k : Nat) (d : List UInt8) (h : ds[k]? = some d) : (ds.take (k + 1)).flatten = (ds.take k).flatten ++ d := by
  rw [List.take_add_one, h]
  simp
theorem flat_le (ds : List (List UInt8)) (k : Nat) : (ds.take k).flatten.length ≤ ds.flatten.length := by
  conv => rhs; rw [← List.take_append_drop k ds]
  rw [List.flatten_append, List.length_append]
  omega
set_option maxRecDepth 200000 in
set_option maxHeartbeats 12800000 in
theorem implDotWrite_any {w : World} {A : Option Addr} {n c : Nat} {ds : List (List UInt8)} (hr : BL w A ds) (hn : n = ds.length) (ht : ds.flatten.length ≤ 17592186044416) (hm : ds.length ≤ 17592186044416) :
    Calls Tryd.prog 16 #[.slice A n c] w (DotWriteEnd ds.flatten w) := by
  subst hn
  have HR := Lib.hid (And.intro hr ht)
  clear hr ht
  go_enter Tryd.func16, Tryd.ntmps16
  go_wp2_with (first
    | (go_at_call 40; refine newWriter_any.mono ?_; rintro e w2 ⟨rfl, hw2⟩; have HW2 := Lib.hid hw2; clear hw2)
    | (go_at_call 39; refine newTpWriter_any.mono ?_; rintro e w3 ⟨rfl, hw3⟩; have HW3 := Lib.hid hw3; clear hw3)
    | (go_at_call 41; refine (dotWriter_any (by rw [HW3.out]; exact Blk.new _ _ _)).mono ?_; rintro e w4 ⟨rfl, hw4⟩; have HW4 := Lib.hid hw4; clear hw4; refine Hid.out ?_))
  have e2 := HW2.out
  simp only [World.size_alloc] at e2
  have z2 : w2.heap.size = w.heap.size + 3 := by rw [e2, World.size_alloc, World.size_alloc, World.size_alloc]
  have z3 : w3.heap.size = w.heap.size + 4 := by rw [HW3.out, World.size_alloc, z2]
  obtain ⟨hD, hB⟩ := dw_first (w := w) (b := w.heap.size) (bb := w.heap.size + 1) (p := w.heap.size + 1 + 1) (t := w2.heap.size) (dw := w3.heap.size) rfl rfl rfl z2 z3 rfl e2 HW3.out HW4.out
  clear e2 z2 z3 HW2 HW3 HW4
  generalize (fun k => k = w.heap.size + 1 + 1 ∨ k = w.heap.size + 1 ∨ k = w2.heap.size ∨ k = w3.heap.size) = N at hD
  have HD := Lib.hid (And.intro hD hB)
  clear hD hB
  refine Lib.hid ?_
  generalize w2.heap.size = t at *
  generalize w3.heap.size = dw at *
  generalize w.heap.size + 1 + 1 = p at *
  generalize w.heap.size + 1 = bb at *
  go_wp2
  go_loopg [7, 15] ds.length (fun gk _ u15 wr => DWLoop w.heap.size p bb t dw N ds w gk u15 wr)
  case atStart => exact ⟨0, by omega, rfl, by simpa [wrun, wlast] using HD.out.1, HD.out.2⟩
  case round =>
    obtain ⟨k, hk, rfl, hD, hB⟩ := hrel
    by_cases hlt : k < ds.length
    · obtain ⟨d, hdk⟩ : ∃ d, ds[k]? = some d := ⟨_, List.getElem?_eq_getElem hlt⟩
      obtain ⟨g, o, B, cb, rfl, hcell0, hdl, hcb, hrb⟩ := HR.out.1.at_ hdk
      have hcell := (hB.cell (p := ⟨g, o + k, none⟩) (World.block_lt_of_cell? _ _ hcell0)).trans hcell0
      have hrb1 : RB (wr.drew.alloc (.cells #[] 5)) B d := (hrb.below hB).below (((Below.refl wr.heap.size wr).drew).alloc (Nat.le_refl _) _)
      have hfl := flat_le ds (k + 1)
      rw [flat_take ds k d hdk, List.length_append] at hfl
      have hfl2 := HR.out.2
      have hsz1 : (wr.drew.alloc (.cells #[] 5)).heap.size = wr.heap.size + 1 := World.size_alloc _ _
      have hlit : OB (wr.drew.alloc (.cells #[] 5)) wr.heap.size (.slice (some ⟨wr.heap.size, 0, none⟩) 0 0) [] := OB.lit' (w := wr.drew) rfl (Nat.le_refl _)
      obtain ⟨v4, w5, hrun, hown, hgrow, hat⟩ := run_append_B 24 (wr.drew.alloc (.cells #[] 5)) wr.heap.size (.slice (some ⟨wr.heap.size, 0, none⟩) 0 0) [] hlit B d cb hrb1 (by simp; omega) (by omega)
      rw [List.nil_append] at hown
      obtain ⟨A5, c5, rfl, hc5, hc5', hr5⟩ := hown.form
      have hb5 : Below wr.heap.size wr w5 := (((Below.refl wr.heap.size wr).drew).alloc (Nat.le_refl _) _).grown hgrow (by omega) (fun j hj => (hlit.lt j hj).1)
      have hA5 : ∀ g' o', A5 = some ⟨g', o', none⟩ → wr.heap.size ≤ g' ∧ g' < w5.heap.size := by
        rintro g' o' rfl
        exact hown.lt g' rfl
      obtain ⟨hnw, hNp, hNb⟩ := hD.nw
      have hs5 := hb5.size
      have hD5 : Dw w5 w.heap.size w.heap.size p bb t dw (fun j => N j ∨ ∃ o', A5 = some ⟨j, o', none⟩) _ _ := hD.more hb5 (fun _ e => .inl e) (fun j hj e => by
        rcases e with e | ⟨o', e⟩
        · exact e
        · have := (hA5 j o' e).1; omega) (fun j e => by
        rcases e with e | ⟨o', e⟩
        · have := hnw j e; omega
        · exact (hA5 j o' e).2)
      have hwr := wrun_le (ds.take k).flatten 0
      have hdw := dwWrite_any (c := c5) hD5 (wlast_le3 _ _ (by decide)) hr5 rfl (fun g' o' e => ⟨.inr ⟨o', e⟩, by have := hnw bb hNb; have := (hA5 g' o' e).1; omega, by have := hnw p hNp; have := (hA5 g' o' e).1; omega, by have := hD.dblk.lt; have := (hA5 g' o' e).1; omega, by have := hD.tblk.lt; have := (hA5 g' o' e).1; omega⟩) (by omega)
      have HP := Lib.hid (And.intro hrun (And.intro hdw (And.intro hb5 (And.intro hD5 (And.intro hD hB)))))
      have hkd := Lib.hid hdk
      have hki : (k : Int) < (ds.length : Int) := by omega
      have hah := Tryd.aheadW 261 ⟨dw, 0, none⟩
      simp only [show 261 + 1 = 262 from rfl] at hah
      clear hrun hdw hb5 hD5 hD hB hr5 hown hgrow hat hlit hrb1 hrb hcell0 hfl hnw hNp hNb hA5 hdk hwr hfl2 hsz1 hs5
      go_wp2
      refine wp_region_held_drew (S := fun _ => True) (by kernel_rfl) trivial (fun hHeld => ?_)
      refine wpAnyH_take (i := 0) (v := ?v0) rfl (by kernel_rfl) (by kernel_rfl) (by kernel_rfl) (fun _ _ _ h => h) (Or.inl ⟨by rfl, ?h0⟩) trivial ?r0
      case h0 => (intro w hSw; (try dsimp only at hSw); go_simp; (try with_reducible rfl))
      (try simp only [List.getElem_toArray, List.getElem_cons_zero, Act.put, List.setIfInBounds_toArray, List.set_cons_zero, List.set_cons_succ])
      refine wpAnyH_take (i := 2) (v := ?v2) rfl (by kernel_rfl) (by kernel_rfl) (by kernel_rfl) (fun _ _ _ h => h) (Or.inl ⟨by rfl, ?h2⟩) trivial ?r2
      case h2 => (intro w hSw; (try dsimp only at hSw); go_simp; (try with_reducible rfl))
      (try simp only [List.getElem_toArray, List.getElem_cons_succ, List.getElem_cons_zero, Act.put, List.setIfInBounds_toArray, List.set_cons_zero, List.set_cons_succ])
      refine wpAnyH_take (i := 4) (v := ?v4) rfl (by kernel_rfl) (by kernel_rfl) (by kernel_rfl) (fun _ _ _ h => h) (Or.inl ⟨by rfl, ?h4⟩) trivial ?r4
      case h4 => (intro w hSw; (try dsimp only at hSw); go_simp; (try with_reducible rfl))
      (try simp only [List.getElem_toArray, List.getElem_cons_succ, List.getElem_cons_zero, Act.put, List.setIfInBounds_toArray, List.set_cons_zero, List.set_cons_succ])
      refine wpAnyH_take (i := 5) (v := ?v5) rfl (by kernel_rfl) (by kernel_rfl) (by kernel_rfl) (fun _ _ _ h => h) (Or.inl ⟨by rfl, ?h5⟩) trivial ?r5
      case h5 => (intro w hSw; (try dsimp only at hSw); go_simp; (try with_reducible rfl))
      (try simp only [List.getElem_toArray, List.getElem_cons_succ, List.getElem_cons_zero, Act.put, List.setIfInBounds_toArray, List.set_cons_zero, List.set_cons_succ])
      refine wpAnyH_take (i := 6) (v := ?v6) rfl (by kernel_rfl) (by kernel_rfl) (by kernel_rfl) (fun _ _ _ h => h) (Or.inl ⟨by rfl, ?h6⟩) trivial ?r6
      case h6 => (intro w hSw; (try dsimp only at hSw); go_simp; (try with_reducible rfl))
      (try simp only [List.getElem_toArray, List.getElem_cons_succ, List.getElem_cons_zero, Act.put, List.setIfInBounds_toArray, List.set_cons_zero, List.set_cons_succ])
      refine wpAnyH_ready (rs := [1]) (by kernel_rfl) (by simp) ?_
      refine AllReadyH.cons rfl (fun K hK => ?_) AllReadyH.nil
      go_simp
      refine hK.out _ _ trivial (fun _ => ?_)
      clear hK K
      (try simp only [List.getElem_toArray, List.getElem_cons_succ, List.getElem_cons_zero, Act.put, List.setIfInBounds_toArray, List.set_cons_zero, List.set_cons_succ])
      refine wpAnyH_ready (rs := [3]) (by kernel_rfl) (by simp) ?_
      refine AllReadyH.cons rfl (fun K hK => ?_) AllReadyH.nil
      rw [if_pos (by rfl)]
      refine Lib.wp_append_run _ (.tmp 20) (.tmp 21) 24 24 rfl _ _ rfl rfl _ _ HP.out.1 ?_
      refine hK.out _ _ trivial (fun _ => ?_)
      clear hK K
      (try simp only [List.getElem_toArray, List.getElem_cons_succ, List.getElem_cons_zero, Act.put, List.setIfInBounds_toArray, List.set_cons_zero, List.set_cons_succ])
      refine wpAnyH_ready (rs := [7]) (by kernel_rfl) (by simp) ?_
      refine AllReadyH.cons rfl (fun K hK => ?_) AllReadyH.nil
      go_simp
      go_wp2_with (go_at_call 115; refine HP.out.2.1.mono ?_; rintro e w6 ⟨⟨v, rfl⟩, hD6, hC6⟩; have H6 := Lib.hid (And.intro hD6 hC6); clear hD6 hC6)
      refine hK.out _ _ trivial (fun _ => ?_)
      clear hK K
      (try simp only [List.getElem_toArray, List.getElem_cons_succ, List.getElem_cons_zero, Act.put, List.setIfInBounds_toArray, List.set_cons_zero, List.set_cons_succ])
      refine wpAnyH_done (by kernel_rfl) ?_ _
      go_wp2
      go_roundg (gk - 1)
      case measure => omega
      case rel =>
        obtain ⟨_, _, hb5, hD5, hD, hB⟩ := HP.out
        have hC6 := H6.out.2
        refine ⟨k + 1, by omega, by go_num, ?_, hB.trans ((hb5.mono hD.size).trans (hC6.below (fun j hj e => by have := SD_ge hD5 e; omega) hD5.size))⟩
        rw [flat_take ds k d hkd.out, wrun_app, wlast_app]
        exact H6.out.1.less hD.lay (fun _ e => .inl e) hD.nw.2.1 hD.nw.2.2
    · have htk : ds.take k = ds := List.take_of_length_le (by omega)
      rw [htk] at hD
      have hki : ¬ (k : Int) < (ds.length : Int) := by omega
      have hwr := wrun_le ds.flatten 0
      have hfl2 := HR.out.2
      have hcl := dwClose_any hD (wlast_le3 _ _ (by decide)) (by omega)
      have hwl := wall_le ds.flatten
      have HC := Lib.hid (And.intro hcl (And.intro hD (And.intro hB hwl)))
      clear hcl hD hB htk hwr hwl
      go_wp2_with (first
        | (go_at_call 69; refine HC.out.1.mono ?_; rintro e w6 ⟨⟨v, rfl⟩, hW6, ht6, hC6⟩; have H6 := Lib.hid (And.intro hW6 hC6); clear hW6 hC6)
        | (go_at_call 42; refine (flush_any H6.out.1 (by have := HC.out.2.2.2; show (wall ds.flatten).length + 0 ≤ _; omega)).mono ?_; rintro e w7 ⟨rfl, hW7, hC7⟩; have H7 := Lib.hid (And.intro hW7 hC7); clear hW7 hC7)
        | (go_at_call 43; refine (bufBytes_any H7.out.1.bf).mono ?_; rintro e w8 ⟨⟨A8, c8, rfl, hc8, hc8', hr8⟩, hO8⟩; have H8 := Lib.hid (And.intro hc8 (And.intro hc8' (And.intro hr8 hO8))); clear hc8 hc8' hr8 hO8))
      go_ret
      obtain ⟨hc8, hc8', hr8, hO8⟩ := H8.out
      obtain ⟨_, hD, hB, _⟩ := HC.out
      have hr8' : RB w8 A8 (wall ds.flatten) := by rw [List.append_nil] at hr8; exact hr8
      have hwl : (wall ds.flatten).length = (wrun 0 ds.flatten).length + (wshut (wlast 0 ds.flatten)).length := List.length_append
      have hC := H6.out.2.trans (H7.out.2.sub (fun k _ e => .inl e))
      refine ⟨⟨A8, c8, by rw [hwl]; rfl, ?_, hc8', hr8'⟩, (hB.trans (hC.below (fun j hj e => by have := SD_ge hD e; omega) hD.size)).trans ⟨hO8.os, hO8.tape, hO8.output, by rw [hO8.heap]; exact Nat.le_refl _, fun k _ => hO8.at_ k⟩⟩
      rw [List.append_nil] at hc8
      exact hc8
end Go.Proofs.YteiiocibldpioaaDoor
