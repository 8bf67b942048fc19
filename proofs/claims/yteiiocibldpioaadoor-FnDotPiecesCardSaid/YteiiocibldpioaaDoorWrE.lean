/- The walk of a bufio.Writer's Write, of at most 4096 bytes. -/
import Derived.Test.YteiiocibldpioaaDoorWrD
import Derived.Test.YteiiocibldpioaaDoorRdA
import Derived.Deep.LoopGhost
namespace Go.Proofs.YteiiocibldpioaaDoor
open Go.RowKit

section
variable {w w' : World} {base b p bb : Nat} {N : Nat → Prop} {O B : List UInt8}
theorem Wd.puts (h : Wd w base b p bb N O B) (X : List UInt8) (hX : B.length + X.length ≤ 4096) (k : Nat) (hk : k = B.length + X.length) : Wd ((w.setCells bb B.length (bts X)).setCell ⟨p, 2, none⟩ (.int .i64 k)) base b p bb N O (B ++ X) ∧ Chg (SW base p bb N) w ((w.setCells bb B.length (bts X)).setCell ⟨p, 2, none⟩ (.int .i64 k)) := by
  have hC : Chg (SW base p bb N) w ((w.setCells bb B.length (bts X)).setCell ⟨p, 2, none⟩ (.int .i64 k)) := (Chg.setCells (g := bb) (fun _ => .inr (.inr rfl)) _ _ (Chg.refl _ w)).setCell (p := ⟨p, 2, none⟩) (fun _ => .inr (.inl rfl)) _
  have hsz := hC.size
  have hN : ∀ j, j ≠ p → j ≠ bb → ((w.setCells bb B.length (bts X)).setCell ⟨p, 2, none⟩ (.int .i64 k)).heap[j]? = w.heap[j]? := fun j h1 h2 => (Below.heap_setCell _ _ _ _ h1).trans (heap_setCells _ _ _ _ _ h2)
  obtain ⟨L, hL, hLB⟩ := h.row
  have hll := hL.len
  refine ⟨⟨h.bf.turn (fun _ _ e => e) (fun j _ hj => hN j (fun e => hj (e ▸ h.np)) (fun e => hj (e ▸ h.nbb))), h.np, h.nbb, h.pbb, h.bp, h.bbb, Nat.le_trans h.size hsz, fun j hj => Nat.lt_of_lt_of_le (h.nw j hj) hsz, ?_, ⟨splice L B.length X, (hL.setCells hX).same (Below.heap_setCell _ _ _ _ (Ne.symm h.pbb)), ?_⟩, by rw [List.length_append]; exact hX⟩, hC⟩
  · have := (h.c.same (w' := w.setCells bb B.length (bts X)) (heap_setCells _ _ _ _ _ h.pbb)).set 2 (.int .i64 k)
    rw [List.length_append, ← hk]
    exact this
  · rw [List.length_append]
    unfold splice
    have hl : (L.take B.length).length = B.length := by rw [List.length_take]; omega
    rw [List.take_append_of_le_length (by rw [List.length_append, hl]; exact Nat.le_refl _), List.take_of_length_le (by rw [List.length_append, hl]; exact Nat.le_refl _), hLB]
/-- The loop's relation. -/
def WRel (base b p bb : Nat) (N : Nat → Prop) (T : List UInt8) (w : World) (gk : Nat) (u1 u4 : Value) (wr : World) : Prop :=
  ∃ (O1 B1 P2 : List UInt8) (A2 : Option Addr) (c2 m : Nat), O1 ++ B1 ++ P2 = T ∧ Wd wr base b p bb N O1 B1 ∧ u1 = .slice A2 P2.length c2 ∧ P2.length ≤ c2 ∧ c2 ≤ 9223372036854775807 ∧ RB wr A2 P2 ∧ (∀ g o, A2 = some ⟨g, o, none⟩ → N g ∧ g ≠ bb ∧ g ≠ p) ∧ 0 < P2.length ∧ P2.length ≤ 4096 ∧ u4 = .int .i64 m ∧ m ≤ 4096 * (1 - gk) ∧ (gk = 0 → P2.length ≤ 4096 - B1.length) ∧ Chg (SW base p bb N) w wr
set_option maxRecDepth 200000 in
set_option maxHeartbeats 12800000 in
theorem wwrite_any (h : Wd w base b p bb N O B) {A : Option Addr} {n c : Nat} {P : List UInt8} (hr : RB w A P) (hn : n = P.length) (hc : P.length ≤ c) (hc2 : c ≤ 9223372036854775807) (hA : ∀ g o, A = some ⟨g, o, none⟩ → N g ∧ g ≠ bb ∧ g ≠ p) (hP : 0 < P.length) (hP2 : P.length ≤ 4096) (hlim : (O ++ B ++ P).length ≤ 140737488355328) :
    Calls Tryd.prog 81 #[.pointer (some ⟨p, 0, none⟩), .slice A n c] w fun e w' => (∃ v, e = .returned v) ∧ (∃ O' B', O' ++ B' = O ++ B ++ P ∧ Wd w' base b p bb N O' B') ∧ Chg (SW base p bb N) w w' := by
  subst hn
  have H := Lib.hid (And.intro h (And.intro hr hA))
  generalize hT : O ++ B ++ P = T at *
  have HT := Lib.hid hT
  clear h hr hA hT
  go_enter Tryd.func81, Tryd.ntmps81
  go_wp2
  go_loopg [1, 4, 6] 1 (fun gk u1 u4 _ wr => WRel base b p bb N T w gk u1 u4 wr)
  case atStart => exact ⟨O, B, P, A, c, 0, HT.out, H.out.1, rfl, hc, hc2, H.out.2.1, H.out.2.2, hP, hP2, rfl, by decide, (fun e => by cases e), Chg.refl _ _⟩
  case round =>
    obtain ⟨O1, B1, P2, A2, c2, m, hT, hW, rfl, hc2l, hc2m, hrb, hA2, hp0, hp1, rfl, hm, hfit0, hC⟩ := hrel
    have hav := avail_any hW
    have hle := hW.le
    have hOl : O1.length + B1.length + P2.length ≤ 140737488355328 := by rw [← hT, List.length_append, List.length_append] at hlim; exact hlim
    by_cases hfit : P2.length ≤ 4096 - B1.length
    · have hfi : ¬ ((4096 - B1.length : Nat) : Int) < (P2.length : Int) := by omega
      have HA := Lib.hid (And.intro hav (And.intro hW (And.intro hrb (And.intro hT hC))))
      clear hav hW hrb hT hC hA2 hfit0
      go_wp2_with (go_at_call 86; refine HA.out.1.mono ?_; rintro e w1 ⟨rfl, hO⟩; have HO := Lib.hid hO; clear hO; refine Hid.out ?_)
      have h1 := HA.out.2.1.same HO.out
      have c0 : w1.cell? ⟨p, 0, none⟩ = some .nilIface := h1.c.cell 0
      refine Lib.hid ?_
      have H1 := Lib.hid h1
      clear h1
      go_wp2
      refine wp_still_drew 10 Tryd.mixedD (by kernel_rfl) (fun w2 hw2 => ?_)
      have hO2 : Only w1 w2 := by rw [hw2]; exact (Only.refl w1).drew
      clear hw2
      have h2 := H1.out.same hO2
      have c1 : w2.cell? ⟨p, 1, none⟩ = some (.slice (some ⟨bb, 0, none⟩) 4096 4096) := h2.c.cell 1
      have c2' : w2.cell? ⟨p, 2, none⟩ = some (.int .i64 B1.length) := h2.c.cell 2
      have hne : ¬ 4096 = B1.length := by omega
      have hli : (B1.length : Int) ≤ 4096 := by omega
      have H2 := Lib.hid (And.intro h2 hO2)
      clear h2 hO2 c0
      simp only [List.take_succ_cons, List.take_zero, List.drop_succ_cons, List.drop_zero]
      repeat still_step
      refine wpStill_nil ?_
      obtain ⟨L, hL, _⟩ := H2.out.1.row
      have hrb2 : RB w2 A2 P2 := (HA.out.2.2.1.same (fun g _ _ _ => HO.out.at_ g)).same (fun g _ _ _ => H2.out.2.at_ g)
      refine wpList_copy_B rfl (.tmp 80) (.tmp 81) rfl bb B1.length (4096 - B1.length) (4096 - B1.length) rfl A2 P2.length c2 rfl P2 rfl hrb2 hL (by omega) P2.length (by omega) ?_
      have hput := H2.out.1.puts P2 (by omega) _ rfl
      rw [List.take_of_length_le (Nat.le_refl _)]
      have N3 : (w2.setCells bb B1.length (bts P2)).heap[p]? = w2.heap[p]? := heap_setCells _ _ _ _ _ H2.out.1.pbb
      have k3 := H2.out.1.c.same N3
      generalize w2.setCells bb B1.length (bts P2) = w3 at hput k3 ⊢
      have d2 : w3.cell? ⟨p, 2, none⟩ = some (.int .i64 B1.length) := k3.cell 2
      have f2 := k3.free 2
      have HP := Lib.hid hput
      clear hL N3 k3 hput hrb2 c1 c2'
      go_wp2
      go_ret2
      obtain ⟨_, hW, hrb, hT, hC⟩ := HA.out
      exact ⟨⟨_, rfl⟩, ⟨O1, B1 ++ P2, by rw [← hT]; simp, HP.out.1⟩, ((hC.trans (HO.out.chg _)).trans (H2.out.2.chg _)).trans HP.out.2⟩
    · have hgk : 1 ≤ gk := by
        rcases Nat.eq_zero_or_pos gk with h | h
        · exact absurd (hfit0 h) hfit
        · exact h
      obtain rfl : m = 0 := by
        have : 1 - gk = 0 := by omega
        rw [this] at hm
        omega
      obtain ⟨g, o, rfl, hx⟩ := hrb (by rintro rfl; simp at hp0)
      have hBpos : ((B1.length : Int) == 0) = false := by rw [beq_eq_false_iff_ne]; omega
      by_cases hfull : B1.length = 4096
      · have hav0 : Calls Tryd.prog 86 #[.pointer (some ⟨p, 0, none⟩)] wr fun e w' => e = .returned (.int .i64 0) ∧ Only wr w' := by
          rw [show (4096 - B1.length : Nat) = 0 by omega] at hav
          exact hav
        have hfi : (0 : Int) < (P2.length : Int) := by omega
        have hlim1 : O1.length + B1.length ≤ 140737488355328 := by omega
        have HA := Lib.hid (And.intro hav0 (And.intro hW (And.intro hx (And.intro hT (And.intro hC (And.intro hA2 hfull))))))
        clear hav hav0 hW hx hT hC hA2 hfit0 hrb
        go_wp2_with (go_at_call 86; refine HA.out.1.mono ?_; rintro e w1 ⟨rfl, hO⟩; have HO := Lib.hid hO; clear hO; refine Hid.out ?_)
        have h1 := HA.out.2.1.same HO.out
        have c0 : w1.cell? ⟨p, 0, none⟩ = some .nilIface := h1.c.cell 0
        refine Lib.hid ?_
        have H1 := Lib.hid h1
        clear h1
        go_wp2_with (go_at_call 87; refine (wbuffered_any H1.out).mono ?_; rintro e w' ⟨rfl, rfl⟩)
        refine wp_still_drew 10 Tryd.mixedD (by kernel_rfl) (fun w2 hw2 => ?_)
        have hO2 : Only w1 w2 := by rw [hw2]; exact (Only.refl w1).drew
        clear hw2
        have h2 := H1.out.same hO2
        have c1 : w2.cell? ⟨p, 1, none⟩ = some (.slice (some ⟨bb, 0, none⟩) 4096 4096) := h2.c.cell 1
        have c2' : w2.cell? ⟨p, 2, none⟩ = some (.int .i64 4096) := by
          have := h2.c.cell 2
          rw [this]
          show some (Value.int .i64 (B1.length : Int)) = _
          rw [hfull]
          rfl
        have H2 := Lib.hid (And.intro h2 hO2)
        clear h2 hO2 c0
        simp only [List.take_succ_cons, List.take_zero, List.drop_succ_cons, List.drop_zero]
        repeat still_step
        refine wpStill_nil ?_
        obtain ⟨L, hL, _⟩ := H2.out.1.row
        have hrb2 : RB w2 (some ⟨g, o, none⟩) P2 := RB.same (w := wr) (fun _ => ⟨g, o, rfl, HA.out.2.2.1⟩) (fun g _ _ _ => ((HO.out.trans H2.out.2).at_ g))
        refine wpList_copy_B rfl (.tmp 43) (.tmp 44) rfl bb 0 0 0 rfl (some ⟨g, o, none⟩) P2.length c2 rfl P2 rfl hrb2 hL (by omega) 0 (by simp) ?_
        have hput := H2.out.1.puts [] (by simpa using hle) 4096 (by simpa using hfull.symm)
        rw [List.append_nil] at hput
        replace hput : Wd (w2.setCell ⟨p, 2, none⟩ (.int .i64 4096)) base b p bb N O1 B1 ∧ Chg (SW base p bb N) w2 (w2.setCell ⟨p, 2, none⟩ (.int .i64 4096)) := hput
        show wpList _ _ _ _ _ w2
        have f2 := H2.out.1.c.free 2
        have HP := Lib.hid hput
        have HH := Lib.hid (And.intro hlim1 hrb2)
        clear hL hput hrb2 c1 hfull hlim1
        go_wp2_with (go_at_call 42; refine (flush_any HP.out.1 HH.out.1).mono ?_; rintro e w5 ⟨rfl, h5, hC5⟩; have H5 := Lib.hid (And.intro h5 hC5); clear h5 hC5)
        go_roundg 0
        case measure => omega
        case rel =>
          obtain ⟨_, hW, hx, hT, hC, hA2, hfull⟩ := HA.out
          have hC5 := ((hC.trans (HO.out.chg _)).trans (H2.out.2.chg _)).trans (HP.out.2.trans H5.out.2)
          have hCx := ((HO.out.chg (SW base p bb N)).trans (H2.out.2.chg _)).trans (HP.out.2.trans H5.out.2)
          have hNg := hA2 g o rfl
          refine ⟨O1 ++ B1, [], P2, some ⟨g, o, none⟩, c2, 0, by rw [← hT]; simp, H5.out.1, rfl, hc2l, hc2m, ?_, hA2, hp0, hp1, rfl, by omega, fun _ => by simpa using hp1, hC5⟩
          exact RB.same (w := wr) (fun _ => ⟨g, o, rfl, hx⟩) (fun g' o' e _ => by
            injection e with e; injection e with e _; subst e
            exact hCx.block g (hW.nw g hNg.1) (fun e => by rcases e with e | e | e; exact e.2 hNg.1; exact hNg.2.2 e; exact hNg.2.1 e))
      · obtain ⟨a, ha⟩ : ∃ a, a = 4096 - B1.length := ⟨_, rfl⟩
        rw [← ha] at hav hfit
        have hfi : (a : Int) < (P2.length : Int) := by omega
        have hfn : a < P2.length := by omega
        have hca : ¬ c2 = a := by omega
        have hac : (a : Int) ≤ (c2 : Int) := by omega
        have hne : ¬ 4096 = B1.length := by omega
        have hli : (B1.length : Int) ≤ 4096 := by omega
        have hba : B1.length + a = 4096 := by omega
        have hlim1 : O1.length + (B1 ++ P2.take a).length ≤ 140737488355328 := by rw [List.length_append, List.length_take]; omega
        have HA := Lib.hid (And.intro hav (And.intro hW (And.intro hx (And.intro hT (And.intro hC (And.intro hA2 (And.intro hlim1 (And.intro ha hba))))))))
        have haa : a ≤ 4096 := by omega
        clear hav hW hx hT hC hA2 hfit0 hrb hlim1 hfull ha hba
        go_wp2_with (go_at_call 86; refine HA.out.1.mono ?_; rintro e w1 ⟨rfl, hO⟩; have HO := Lib.hid hO; clear hO; refine Hid.out ?_)
        have h1 := HA.out.2.1.same HO.out
        have c0 : w1.cell? ⟨p, 0, none⟩ = some .nilIface := h1.c.cell 0
        refine Lib.hid ?_
        have H1 := Lib.hid h1
        clear h1
        go_wp2_with (go_at_call 87; refine (wbuffered_any H1.out).mono ?_; rintro e w' ⟨rfl, rfl⟩)
        refine wp_still_drew 10 Tryd.mixedD (by kernel_rfl) (fun w2 hw2 => ?_)
        have hO2 : Only w1 w2 := by rw [hw2]; exact (Only.refl w1).drew
        clear hw2
        have h2 := H1.out.same hO2
        have c1 : w2.cell? ⟨p, 1, none⟩ = some (.slice (some ⟨bb, 0, none⟩) 4096 4096) := h2.c.cell 1
        have c2' : w2.cell? ⟨p, 2, none⟩ = some (.int .i64 B1.length) := h2.c.cell 2
        have H2 := Lib.hid (And.intro h2 hO2)
        clear h2 hO2 c0
        simp only [List.take_succ_cons, List.take_zero, List.drop_succ_cons, List.drop_zero]
        repeat still_step
        refine wpStill_nil ?_
        obtain ⟨L, hL, _⟩ := H2.out.1.row
        have hrb2 : RB w2 (some ⟨g, o, none⟩) P2 := RB.same (w := wr) (fun _ => ⟨g, o, rfl, HA.out.2.2.1⟩) (fun g _ _ _ => ((HO.out.trans H2.out.2).at_ g))
        refine wpList_copy_B rfl (.tmp 43) (.tmp 44) rfl bb B1.length (4096 - B1.length) (4096 - B1.length) rfl (some ⟨g, o, none⟩) P2.length c2 rfl P2 rfl hrb2 hL (by omega) a (by have := HA.out.2.2.2.2.2.2.2.1; omega) ?_
        have hput := H2.out.1.puts (P2.take a) (by rw [List.length_take]; have := HA.out.2.2.2.2.2.2.2.2; omega) (B1.length + a) (by rw [List.length_take]; omega)
        have N3 : (w2.setCells bb B1.length (bts (P2.take a))).heap[p]? = w2.heap[p]? := heap_setCells _ _ _ _ _ H2.out.1.pbb
        have k3 := H2.out.1.c.same N3
        generalize w2.setCells bb B1.length (bts (P2.take a)) = w3 at hput k3 ⊢
        have d2 : w3.cell? ⟨p, 2, none⟩ = some (.int .i64 B1.length) := k3.cell 2
        have f2 := k3.free 2
        have HP := Lib.hid hput
        clear hL N3 k3 hput hrb2 c1 c2'
        go_wp2_with (go_at_call 42; refine (flush_any HP.out.1 HA.out.2.2.2.2.2.2.1).mono ?_; rintro e w5 ⟨rfl, h5, hC5⟩; have H5 := Lib.hid (And.intro h5 hC5); clear h5 hC5)
        go_roundg 0
        case measure => omega
        case rel =>
          obtain ⟨_, hW, hx, hT, hC, hA2, _, ha, hba⟩ := HA.out
          have hC5 := ((hC.trans (HO.out.chg _)).trans (H2.out.2.chg _)).trans (HP.out.2.trans H5.out.2)
          have hCx := ((HO.out.chg (SW base p bb N)).trans (H2.out.2.chg _)).trans (HP.out.2.trans H5.out.2)
          have hNg := hA2 g o rfl
          have hrbw : RB wr (some ⟨g, o, none⟩) P2 := fun _ => ⟨g, o, rfl, hx⟩
          refine ⟨O1 ++ (B1 ++ P2.take a), [], P2.drop a, some ⟨g, o + a, none⟩, c2 - a, a, ?_, H5.out.1, by rw [List.length_drop], by rw [List.length_drop]; omega, by omega, ?_, (fun g' o' e => by injection e with e; injection e with e _; subst e; exact hNg), by rw [List.length_drop]; omega, by rw [List.length_drop]; omega, rfl, by omega, (fun _ => by rw [List.length_drop]; simp; omega), hC5⟩
          · rw [← hT, List.append_nil]
            simp only [List.append_assoc, List.take_append_drop]
          · exact (hrbw.drop a).same (fun g' o' e _ => by
              injection e with e; injection e with e _; subst e
              exact hCx.block g (hW.nw g hNg.1) (fun e => by rcases e with e | e | e; exact e.2 hNg.1; exact hNg.2.2 e; exact hNg.2.1 e))
end
end Go.Proofs.YteiiocibldpioaaDoor
