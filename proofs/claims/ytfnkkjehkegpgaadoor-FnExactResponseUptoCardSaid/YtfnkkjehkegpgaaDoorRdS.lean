/- The walk of bufio's Read into a row, where something is left. -/
import Derived.Test.YtfnkkjehkegpgaaDoorRdR
namespace Go.Proofs.YtfnkkjehkegpgaaDoor
open Go.RowKit

theorem Rd.new' {K : Und} {base p bb : Nat} {E : Nat → Addr} {gs : List Nat} {w w' : World} {B U B' U' : List UInt8} {r r' : Nat} {z z' : Bool} {lb lr lb' lr' : Int} (h : Rd K base E gs p bb w B U r z lb lr)
    (hb : Below base w w') (c : RdC w' p bb K.rd r' ((r' + B'.length : Nat) : Int) (eofV E z') lb' lr') (row : ∃ L, RowB w' bb 4096 L ∧ (L.drop r').take B'.length = B') (le : r' + B'.length ≤ 4096) (u : K.at_ w' U')
    (end_ : z' = true → U' = [] ∧ r' + B'.length < 4096) : Rd K base E gs p bb w' B' U' r' z' lb' lr' := ⟨h.lay, c, row, le, u, end_, h.s.below hb⟩

set_option maxRecDepth 200000 in
set_option maxHeartbeats 4000000 in
theorem readB_some {q sb : Nat} (hqs : sb ≠ q) {base p bb : Nat} {E : Nat → Addr} {gs : List Nat} {w : World} {B U : List UInt8} {r : Nat} {z : Bool} {lb lr : Int} (h : Rd (KB q sb) base E gs p bb w B U r z lb lr) (hne : B ++ U ≠ [])
    {g N c : Nat} {L : List UInt8} (hrow : RowB w g N L) (hN : 0 < N) (hN' : N < 4096) (hgS : ¬ Rd.S (KB q sb) p bb g) (hgb : base ≤ g) :
    Calls Tryd.prog 36 #[.pointer (some ⟨p, 0, none⟩), .slice (some ⟨g, 0, none⟩) N c] w (ReadEnd (KB q sb) base E gs p bb g N (B ++ U) w) := by
  have c0 := h.c.c0
  have c1 : w.cell? ⟨p, 1, none⟩ = some (.iface 57 (.pointer (some ⟨q, 0, none⟩))) := h.c.c1
  have c2 := h.c.c2
  have c3 := h.c.c3
  obtain ⟨n, hn⟩ : ∃ n : Nat, n = r + B.length := ⟨_, rfl⟩
  rw [← hn] at c3
  have H := Lib.hid (And.intro h (And.intro hrow (And.intro hgS (And.intro hne hn))))
  have hN2 : (N : Int) < 4096 := by omega
  generalize hS : B ++ U = S at hne ⊢
  have HS := Lib.hid hS
  clear hrow hgS hne h hS hn
  go_enter Tryd.func36, Tryd.ntmps36
  go_wp2
  go_quiet (fail)
  go_upto_if 23 with (fail)
  go_cut [4] (fun u4 wx => ∃ (B' U' : List UInt8) (r' : Nat) (z' : Bool) (lb' lr' : Int), Rd (KB q sb) base E gs p bb wx B' U' r' z' lb' lr' ∧ Chg (Rd.S (KB q sb) p bb) w wx ∧ B' ++ U' = S ∧ B' ≠ [])
  case first =>
    by_cases hB : B = []
    · subst hB
      have hz : z = false ∧ U ≠ [] := by
        have h := H.out.1
        have hne := H.out.2.2.2.1
        rw [List.nil_append] at hne
        cases z
        · exact ⟨rfl, hne⟩
        · exact absurd (h.end_ rfl).1 hne
      obtain ⟨hz, hU⟩ := hz
      subst hz
      have hrn : n = r := by have := H.out.2.2.2.2; simpa using this
      subst hrn
      have h := H.out.1
      have c4 : (w.drewN nq).cell? ⟨p, 4, none⟩ = some .nilIface := (h.c.drewN nq).c4
      have c0 := (h.c.drewN nq).c0
      have c1 : (w.drewN nq).cell? ⟨p, 1, none⟩ = some (.iface 57 (.pointer (some ⟨q, 0, none⟩))) := (h.c.drewN nq).c1
      have d2 := (h.c.drewN nq).c2
      have d3 := (h.c.drewN nq).c3
      have e2 := (h.c.drewN nq).f 2
      have e3 := (h.c.drewN nq).f 3
      have hP := ((h.c.drewN nq).set2 0).set3 0
      have hC : Chg (Rd.S (KB q sb) p bb) w (((w.drewN nq).setCell ⟨p, 2, none⟩ (.int .i64 0)).setCell ⟨p, 3, none⟩ (.int .i64 0)) := (((Chg.refl _ w).drewN nq).setCell (p := ⟨p, 2, none⟩) (fun _ => .inl rfl) _).setCell (p := ⟨p, 3, none⟩) (fun _ => .inl rfl) _
      have hNe : ∀ k, k ≠ p → (((w.drewN nq).setCell ⟨p, 2, none⟩ (.int .i64 0)).setCell ⟨p, 3, none⟩ (.int .i64 0)).heap[k]? = w.heap[k]? := fun k hk => (Below.heap_setCell _ _ _ _ hk).trans (Below.heap_setCell _ _ _ _ hk)
      have HP := Lib.hid (And.intro hP (And.intro hC hNe))
      clear hP hC hNe h
      go_wp2
      generalize (((w.drewN nq).setCell ⟨p, 2, none⟩ (.int .i64 0)).setCell ⟨p, 3, none⟩ (.int .i64 0)) = w1 at HP ⊢
      clear c0 c1 c2 c3 c4 d2 d3 e2 e3
      have c0 := HP.out.1.c0
      have c1 : w1.cell? ⟨p, 1, none⟩ = some (.iface 57 (.pointer (some ⟨q, 0, none⟩))) := HP.out.1.c1
      have hu : BR q sb w1 U := (KB q sb).same H.out.1.u fun k hk => HP.out.2.2 k (fun e => H.out.1.lay.np (e ▸ hk))
      obtain ⟨L0, hL0, _⟩ := H.out.1.row
      have hrb : RowB w1 bb 4096 L0 := hL0.same (HP.out.2.2 bb H.out.1.lay.nb.symm)
      have HU := Lib.hid (And.intro hu (And.intro hrb (And.intro hU hL0.len)))
      clear hu hrb hL0
      have hUl : 0 < min U.length 4096 := by have := List.length_pos_iff.2 hU; omega
      have hUi : ¬ ((min U.length 4096 : Nat) : Int) ≤ 0 := by omega
      have hUz : (((min U.length 4096 : Nat) : Int) == 0) = false := by rw [beq_eq_false_iff_ne]; omega
      clear hU
      go_region_held3 (fun w' => w'.cell? ⟨p, 0, none⟩ = some (.slice (some ⟨bb, 0, none⟩) 4096 4096) ∧ w'.cell? ⟨p, 1, none⟩ = some (.iface 57 (.pointer (some ⟨q, 0, none⟩))))
        (first | go_keep | (refine ⟨?_, ?_⟩ <;> (first | (rw [World.cell?_of_block (hN3 p rfl)]; assumption) | (rw [World.cell?_setCell_other _ _ _ _ (by simp)]; first | assumption | (rw [World.cell?_of_block (hN3 p rfl)]; assumption)))))
        (first | (go_at_call 96; refine (brRead_some (HU.out.1.only (Only.refl _).drew) HU.out.2.2.1 (HU.out.2.1.only (Only.refl _).drew) (by decide) (by decide) (fun e => H.out.1.lay.nbb (.inl e)) (fun e => H.out.1.lay.nbb (.inr e)) hqs).mono ?_; rintro e w3 ⟨rfl, hbr, hrow3, hC3⟩; have hN3 : ∀ k, k = p → w3.heap[k]? = w1.heap[k]? := fun k hk => hC3.block k (by subst hk; exact HP.out.1.lt) (fun e => by subst hk; rcases e with e | e; exact H.out.1.lay.np (.inl e); exact H.out.1.lay.nb e); have HR3 := Lib.hid (And.intro hbr (And.intro hrow3 hC3)); clear hbr hrow3 hC3; have d4 := (HP.out.1.same (hN3 p rfl)).c4; have f4 := (HP.out.1.same (hN3 p rfl)).f 4; have d3 := (HP.out.1.same (hN3 p rfl)).c3; have f3 := (HP.out.1.same (hN3 p rfl)).f 3))
      go_wp2
      go_meet
      case rel =>
        obtain ⟨hbr, hrow3, hC3⟩ := HR3.out
        obtain ⟨hP, hC, hNe⟩ := HP.out
        have h := H.out.1
        have hN3 : w3.heap[p]? = w1.heap[p]? := hC3.block p hP.lt (fun e => by rcases e with e | e; exact h.lay.np (.inl e); exact h.lay.nb e)
        have hXl : (U.take 4096).length = min U.length 4096 := by rw [List.length_take, Nat.min_comm]
        have hP3 := ((hP.same hN3).set4 .nilIface).set3 ((min U.length 4096 : Nat) : Int)
        have N3 : ∀ k, k ≠ p → ((w3.setCell ⟨p, 4, none⟩ .nilIface).setCell ⟨p, 3, none⟩ (.int .i64 (min U.length 4096 : Nat))).heap[k]? = w3.heap[k]? := fun k hk => (Below.heap_setCell _ _ _ _ hk).trans (Below.heap_setCell _ _ _ _ hk)
        have hCa : Chg (Rd.S (KB q sb) p bb) w ((w3.setCell ⟨p, 4, none⟩ .nilIface).setCell ⟨p, 3, none⟩ (.int .i64 (min U.length 4096 : Nat))) :=
          ((hC.trans (((Only.refl w1).drew.chg _).trans (hC3.sub (fun k _ hk => by rcases hk with rfl | rfl; exact .inr (.inr (.inl rfl)); exact .inr (.inl rfl))))).setCell (p := ⟨p, 4, none⟩) (fun _ => .inl rfl) _).setCell (p := ⟨p, 3, none⟩) (fun _ => .inl rfl) _
        refine ⟨U.take 4096, U.drop 4096, 0, false, lb, lr, h.new hCa ?_ ⟨_, hrow3.same (N3 bb h.lay.nb.symm), ?_⟩ (by rw [hXl]; omega) ((KB q sb).same hbr fun k hk => N3 k (fun e => h.lay.np (e ▸ hk))) (fun e => by cases e), hCa, (List.take_append_drop _ _).trans HS.out, ?_⟩
        · rw [show ((0 + (U.take 4096).length : Nat) : Int) = ((min U.length 4096 : Nat) : Int) by rw [hXl]; omega]
          exact hP3
        · unfold splice
          rw [List.drop_zero, List.take_zero, List.nil_append, List.take_append_of_le_length (Nat.le_refl _), List.take_length]
        · rw [← List.length_pos_iff, hXl]; omega
    · have hrn : ((r : Int) == (n : Int)) = false := by
        have := H.out.2.2.2.2
        have := List.length_pos_iff.2 hB
        rw [beq_eq_false_iff_ne]; omega
      go_wp2
      go_meet
      case rel => exact ⟨B, U, r, z, lb, lr, H.out.1.only ((Only.refl _).drewN nq), (Chg.refl _ _).drewN nq, HS.out, hB⟩
  case rest =>
    obtain ⟨B1, U1, r1, z1, lb1, lr1, h1, hC1, hBU, hB1⟩ := hcut
    clear c0 c1 c2 c3
    have hgrow : RowB wc g N L := H.out.2.1.same (hC1.block g (H.out.2.1.lt hN) H.out.2.2.1)
    have hgS := H.out.2.2.1
    obtain ⟨n1, hn1⟩ : ∃ n1 : Nat, n1 = r1 + B1.length := ⟨_, rfl⟩
    obtain ⟨k, hk⟩ : ∃ k : Nat, k = min (n1 - r1) N := ⟨_, rfl⟩
    have hle := h1.le
    have hpos := List.length_pos_iff.2 hB1
    have hb1 : (r1 : Int) ≤ (n1 : Int) := by omega
    have hb2 : (n1 : Int) ≤ 4096 := by omega
    have hb3 : r1 ≤ n1 := by omega
    have hb4 : n1 ≤ 4096 := by omega
    have hr4 : ¬ 4096 = r1 := by omega
    have hk1 : 0 < k := by omega
    have hk2 : (r1 : Int) + (k : Int) ≤ 4096 := by omega
    have H1 := Lib.hid (And.intro h1 (And.intro hC1 (And.intro hBU (And.intro hgrow (And.intro hgS (And.intro hn1 (And.intro hk hB1)))))))
    clear h1 hC1 hBU hB1 hgrow hgS hn1 hk hle hpos HS
    go_wp2
    refine wp_still_drew 14 Tryd.mixedD (by kernel_rfl) (fun w2 hw2 => ?_)
    have hO2 : Only wc w2 := by rw [hw2]; exact (Only.refl wc).drew
    clear hw2
    have h := H1.out.1.only hO2
    have c0 := h.c.c0
    have c2 := h.c.c2
    have c3 := h.c.c3
    rw [← H1.out.2.2.2.2.2.1] at c3
    have H2 := Lib.hid (And.intro h hO2)
    clear h hO2
    simp only [List.take_succ_cons, List.take_zero, List.drop_succ_cons, List.drop_zero]
    repeat still_step
    refine wpStill_nil ?_
    obtain ⟨h, hO2⟩ := H2.out
    obtain ⟨h1, hC1, hBU, hgrow, hgS, hn1, hk, hB1⟩ := H1.out
    obtain ⟨L1, hL1, hLB1⟩ := h.row
    have hrb : RB w2 (some ⟨bb, r1, none⟩) B1 := hL1.rb r1 B1 hLB1 h.le
    refine wpList_copy_B rfl (.tmp 109) (.tmp 122) rfl g 0 N c rfl (some ⟨bb, r1, none⟩) (n1 - r1) (4096 - r1) rfl B1 (by omega) hrb (hgrow.only hO2) (by omega) k hk ?_
    have hXl : (B1.take k).length = k := by rw [List.length_take]; omega
    have R3 : RowB (w2.setCells g 0 (bts (B1.take k))) g N (splice L 0 (B1.take k)) := (hgrow.only hO2).setCells (by rw [hXl]; omega)
    have N3 : ∀ j, j ≠ g → (w2.setCells g 0 (bts (B1.take k))).heap[j]? = w2.heap[j]? := fun j hj => heap_setCells g _ _ _ _ hj
    have hpg : p ≠ g := fun e => hgS (.inl e.symm)
    have hbg : bb ≠ g := fun e => hgS (.inr (.inl e.symm))
    have C3 : Chg (fun j => Rd.S (KB q sb) p bb j ∨ j = g) w (w2.setCells g 0 (bts (B1.take k))) := ((hC1.trans (hO2.chg _)).sub (fun _ _ h => .inl h)).setCells (g := g) (fun _ => .inr rfl) _ _
    have P3 := h.c.same (N3 p hpg)
    have Q3 := hL1.same (N3 bb hbg)
    have U3 : (KB q sb).at_ (w2.setCells g 0 (bts (B1.take k))) U1 := (KB q sb).same h.u fun j hj => N3 j (fun e => hgS (.inr (.inr (e ▸ hj))))
    generalize w2.setCells g 0 (bts (B1.take k)) = w3 at R3 N3 C3 P3 Q3 U3 ⊢
    clear c0 c2 c3
    have c2 := P3.c2
    have f2 := P3.f 2
    have hPw := P3.set2 ((r1 : Int) + (k : Int))
    have H3 := Lib.hid (And.intro R3 (And.intro C3 (And.intro P3 (And.intro Q3 (And.intro U3 (And.intro hXl (And.intro hLB1 (And.intro hPw (And.intro hpg hbg)))))))))
    clear R3 N3 C3 P3 Q3 U3 hXl hLB1 hPw hpg hbg hL1 hrb h hO2 h1 hC1 hBU hgrow hgS hn1 hk hB1
    go_wp2
    obtain ⟨m1, hm1⟩ : ∃ m1 : Nat, r1 + k = m1 + 1 := ⟨r1 + k - 1, by omega⟩
    have H5 := H3.out.2.2.2.2.2.2.2.1
    rw [show (r1 : Int) + (k : Int) = (m1 : Int) + 1 by omega] at H5 ⊢
    have H4 := Lib.hid hm1
    have hm2 : (m1 : Int) + 1 ≤ 4096 := by omega
    have hm3 : (m1 : Int) < 4096 := by omega
    have N4 : ∀ j, j ≠ p → (w3.setCell ⟨p, 2, none⟩ (.int .i64 ((m1 : Int) + 1))).heap[j]? = w3.heap[j]? := fun j hj => Below.heap_setCell _ _ _ _ hj
    have C4 : Chg (fun j => Rd.S (KB q sb) p bb j ∨ j = g) w (w3.setCell ⟨p, 2, none⟩ (.int .i64 ((m1 : Int) + 1))) := H3.out.2.1.setCell (p := ⟨p, 2, none⟩) (fun _ => .inl (.inl rfl)) _
    generalize w3.setCell ⟨p, 2, none⟩ (.int .i64 ((m1 : Int) + 1)) = w4 at H5 N4 C4 ⊢
    have K4 := Lib.hid (And.intro H5 (And.intro N4 C4))
    clear H5 N4 C4 hm1 c2 f2
    refine wp_still_drew 15 Tryd.mixedD (by kernel_rfl) (fun w5 hw5 => ?_)
    have hO5 : Only w4 w5 := by rw [hw5]; exact (Only.refl w4).drew
    clear hw5
    obtain ⟨b, hb⟩ : ∃ b, b = L1.getD m1 0 := ⟨_, rfl⟩
    have hP5 := K4.out.1.same (hO5.at_ p)
    have c0 := hP5.c0
    have c2 := hP5.c2
    have f5 := hP5.f 5
    have f6 := hP5.f 6
    have c5 := hP5.c5
    have c6 := hP5.c6
    have cb : w5.cell? ⟨bb, m1, none⟩ = some (.int .u8 b.toNat) := by
      rw [hb]
      exact ((H3.out.2.2.2.1.same ((hO5.at_ bb).trans (K4.out.2.1 bb H2.out.1.lay.nb.symm))).cell (by omega))
    have hbn := byte_le b
    have hsub : IntKind.i64.wrap ((m1 : Int) + 1 - 1) = (m1 : Int) := by rw [IntKind.wrap_i64]; omega
    have hsub2 : IntKind.i64.wrap (m1 : Int) = (m1 : Int) := by rw [IntKind.wrap_i64]; omega
    have hm0 : (0 : Int) ≤ (m1 : Int) := by omega
    have K5 := Lib.hid (And.intro hO5 hP5)
    clear hO5 hP5 hb
    simp only [List.take_succ_cons, List.take_zero, List.drop_succ_cons, List.drop_zero]
    repeat still_step
    refine wpStill_nil ?_
    go_wp2
    go_ret2
    obtain ⟨R3, C3, P3, Q3, U3, hXl, hLB1, hPw, hpg, hbg⟩ := H3.out
    obtain ⟨H5, N4, C4⟩ := K4.out
    obtain ⟨hO5, hP5⟩ := K5.out
    obtain ⟨h1, hC1, hBU, hgrow, hgS, hn1, hk, hB1⟩ := H1.out
    have hm := H4.out
    have N6 : ∀ j, j ≠ p → ((w5.setCell ⟨p, 5, none⟩ (.int .i64 b.toNat)).setCell ⟨p, 6, none⟩ (.int .i64 (-1))).heap[j]? = w3.heap[j]? := fun j hj =>
      (Below.heap_setCell _ _ _ _ hj).trans ((Below.heap_setCell _ _ _ _ hj).trans ((hO5.at_ j).trans (N4 j hj)))
    have C6 : Chg (fun j => Rd.S (KB q sb) p bb j ∨ j = g) w ((w5.setCell ⟨p, 5, none⟩ (.int .i64 b.toNat)).setCell ⟨p, 6, none⟩ (.int .i64 (-1))) :=
      ((C4.trans (hO5.chg _)).setCell (p := ⟨p, 5, none⟩) (fun _ => .inl (.inl rfl)) _).setCell (p := ⟨p, 6, none⟩) (fun _ => .inl (.inl rfl)) _
    have hb6 : Below base w ((w5.setCell ⟨p, 5, none⟩ (.int .i64 b.toNat)).setCell ⟨p, 6, none⟩ (.int .i64 (-1))) := C6.below (fun j hj hs => by
      have hl := h1.lay
      rcases hs with (rfl | rfl | hs) | rfl
      · have := hl.bp; omega
      · have := hl.bb_; omega
      · have := hl.bo j hs; omega
      · omega) H.out.1.size
    have hnn : endEr (B1.take k) = .nil := by
      cases e : B1.take k with
      | nil => rw [e] at hXl; simp at hXl; omega
      | cons _ _ => rfl
    have hdl : (B1.drop k).length = n1 - (m1 + 1) := by rw [List.length_drop]; omega
    refine ⟨B1.take k, B1.drop k ++ U1, splice L 0 (B1.take k), ?_, by omega, ?_, fun e => ?_, R3.same (N6 g hpg.symm), ?_, ⟨B1.drop k, U1, m1 + 1, z1, b.toNat, -1, ?_, rfl⟩, C6⟩
    · rw [← List.append_assoc, List.take_append_drop, hBU]
    · rw [hnn, hXl]; rfl
    · rw [e] at hXl; simp at hXl; omega
    · unfold splice
      rw [List.take_zero, List.nil_append, List.take_append_of_le_length (Nat.le_refl _), List.take_length]
    · have hP6 := (hP5.set5 (b.toNat : Int)).set6 (-1)
      refine H.out.1.new' hb6 ?_ ⟨L1, Q3.same (N6 bb h1.lay.nb.symm), ?_⟩ (by omega) ((KB q sb).same U3 fun j hj => N6 j (fun e => h1.lay.np (e ▸ hj))) (fun e => ⟨(h1.end_ e).1, by have := (h1.end_ e).2; omega⟩)
      · rw [show ((m1 + 1 + (B1.drop k).length : Nat) : Int) = ((r1 + B1.length : Nat) : Int) by omega]
        exact hP6
      · have h6 : ((L1.drop r1).take B1.length).drop k = B1.drop k := by rw [hLB1]
        rw [List.drop_take, List.drop_drop] at h6
        rw [show m1 + 1 = r1 + k by omega, show (B1.drop k).length = B1.length - k by rw [List.length_drop]]
        exact h6
end Go.Proofs.YtfnkkjehkegpgaaDoor
