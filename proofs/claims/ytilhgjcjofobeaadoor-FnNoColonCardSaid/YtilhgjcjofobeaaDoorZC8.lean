/- The walk of bufio's Read into a row, where something is left. | The walk of impl.rest: all that a Reader has not read. | The dot reader: its state, and what its Read leaves; the steps of a round, apart from the walk. | The lines of a stream, one behind the other, in plain Lean: what ReadLine gives of them all, and the reference's Lines and Tail. -/
import Derived.Test.YtilhgjcjofobeaaDoorZC5
import Derived.Test.YtilhgjcjofobeaaDoorZC4
import Derived.Test.YtilhgjcjofobeaaDoorZC1
namespace Go.Proofs.YtilhgjcjofobeaaDoor
open Go.RowKit

theorem Rd.new' {K : Und} {base p bb : Nat} {E : Nat → Addr} {gs : List Nat} {w w' : World} {B U B' U' : List UInt8} {r r' : Nat} {z z' : Bool} {lb lr lb' lr' : Int} (h : Rd K base E gs p bb w B U r z lb lr)
    (hb : Below base w w') (c : RdC w' p bb K.rd r' ((r' + B'.length : Nat) : Int) (eofV E z') lb' lr') (row : ∃ L, RowB w' bb 4096 L ∧ (L.drop r').take B'.length = B') (le : r' + B'.length ≤ 4096) (u : K.at_ w' U')
    (end_ : z' = true → U' = [] ∧ r' + B'.length < 4096) : Rd K base E gs p bb w' B' U' r' z' lb' lr' := ⟨h.lay, c, row, le, u, end_, h.s.below hb⟩

set_option maxRecDepth 200000 in
set_option maxHeartbeats 4000000 in
theorem readB_some {q sb : Nat} (hqs : sb ≠ q) {base p bb : Nat} {E : Nat → Addr} {gs : List Nat} {w : World} {B U : List UInt8} {r : Nat} {z : Bool} {lb lr : Int} (h : Rd (KB q sb) base E gs p bb w B U r z lb lr) (hne : B ++ U ≠ [])
    {g N c : Nat} {L : List UInt8} (hrow : RowB w g N L) (hN : 0 < N) (hN' : N < 4096) (hgS : ¬ Rd.S (KB q sb) p bb g) (hgb : base ≤ g) :
    Calls Tryd.prog 38 #[.pointer (some ⟨p, 0, none⟩), .slice (some ⟨g, 0, none⟩) N c] w (ReadEnd (KB q sb) base E gs p bb g N (B ++ U) w) := by
  have c0 := h.c.c0
  have c1 : w.cell? ⟨p, 1, none⟩ = some (.iface 66 (.pointer (some ⟨q, 0, none⟩))) := h.c.c1
  have c2 := h.c.c2
  have c3 := h.c.c3
  obtain ⟨n, hn⟩ : ∃ n : Nat, n = r + B.length := ⟨_, rfl⟩
  rw [← hn] at c3
  have H := Lib.hid (And.intro h (And.intro hrow (And.intro hgS (And.intro hne hn))))
  have hN2 : (N : Int) < 4096 := by omega
  generalize hS : B ++ U = S at hne ⊢
  have HS := Lib.hid hS
  clear hrow hgS hne h hS hn
  go_enter Tryd.func38, Tryd.ntmps38
  go_wp2
  go_quiet (fail)
  go_upto_if 23 with (fail)
  go_cut [4] (fun u4 wx => ∃ (B' U' : List UInt8) (r' : Nat) (z' : Bool) (lb' lr' : Int), Rd (KB q sb) base E gs p bb wx B' U' r' z' lb' lr' ∧ Chg (Rd.S (KB q sb) p bb) w wx ∧ B' ++ U' = S ∧ B' ≠ [])
  case first =>
    by_cases hB : B = []
    · subst hB
      have hz : z = false ∧ U ≠ [] := by
        have h := H.out.1
        have hne := H.out.2.2.2.1
        rw [List.nil_append] at hne
        cases z
        · exact ⟨rfl, hne⟩
        · exact absurd (h.end_ rfl).1 hne
      obtain ⟨hz, hU⟩ := hz
      subst hz
      have hrn : n = r := by have := H.out.2.2.2.2; simpa using this
      subst hrn
      have h := H.out.1
      have c4 : (w.drewN nq).cell? ⟨p, 4, none⟩ = some .nilIface := (h.c.drewN nq).c4
      have c0 := (h.c.drewN nq).c0
      have c1 : (w.drewN nq).cell? ⟨p, 1, none⟩ = some (.iface 66 (.pointer (some ⟨q, 0, none⟩))) := (h.c.drewN nq).c1
      have d2 := (h.c.drewN nq).c2
      have d3 := (h.c.drewN nq).c3
      have e2 := (h.c.drewN nq).f 2
      have e3 := (h.c.drewN nq).f 3
      have hP := ((h.c.drewN nq).set2 0).set3 0
      have hC : Chg (Rd.S (KB q sb) p bb) w (((w.drewN nq).setCell ⟨p, 2, none⟩ (.int .i64 0)).setCell ⟨p, 3, none⟩ (.int .i64 0)) := (((Chg.refl _ w).drewN nq).setCell (p := ⟨p, 2, none⟩) (fun _ => .inl rfl) _).setCell (p := ⟨p, 3, none⟩) (fun _ => .inl rfl) _
      have hNe : ∀ k, k ≠ p → (((w.drewN nq).setCell ⟨p, 2, none⟩ (.int .i64 0)).setCell ⟨p, 3, none⟩ (.int .i64 0)).heap[k]? = w.heap[k]? := fun k hk => (Below.heap_setCell _ _ _ _ hk).trans (Below.heap_setCell _ _ _ _ hk)
      have HP := Lib.hid (And.intro hP (And.intro hC hNe))
      clear hP hC hNe h
      go_wp2
      generalize (((w.drewN nq).setCell ⟨p, 2, none⟩ (.int .i64 0)).setCell ⟨p, 3, none⟩ (.int .i64 0)) = w1 at HP ⊢
      clear c0 c1 c2 c3 c4 d2 d3 e2 e3
      have c0 := HP.out.1.c0
      have c1 : w1.cell? ⟨p, 1, none⟩ = some (.iface 66 (.pointer (some ⟨q, 0, none⟩))) := HP.out.1.c1
      have hu : BR q sb w1 U := (KB q sb).same H.out.1.u fun k hk => HP.out.2.2 k (fun e => H.out.1.lay.np (e ▸ hk))
      obtain ⟨L0, hL0, _⟩ := H.out.1.row
      have hrb : RowB w1 bb 4096 L0 := hL0.same (HP.out.2.2 bb H.out.1.lay.nb.symm)
      have HU := Lib.hid (And.intro hu (And.intro hrb (And.intro hU hL0.len)))
      clear hu hrb hL0
      have hUl : 0 < min U.length 4096 := by have := List.length_pos_iff.2 hU; omega
      have hUi : ¬ ((min U.length 4096 : Nat) : Int) ≤ 0 := by omega
      have hUz : (((min U.length 4096 : Nat) : Int) == 0) = false := by rw [beq_eq_false_iff_ne]; omega
      clear hU
      go_region_held3 (fun w' => w'.cell? ⟨p, 0, none⟩ = some (.slice (some ⟨bb, 0, none⟩) 4096 4096) ∧ w'.cell? ⟨p, 1, none⟩ = some (.iface 66 (.pointer (some ⟨q, 0, none⟩))))
        (first | go_keep | (refine ⟨?_, ?_⟩ <;> (first | (rw [World.cell?_of_block (hN3 p rfl)]; assumption) | (rw [World.cell?_setCell_other _ _ _ _ (by simp)]; first | assumption | (rw [World.cell?_of_block (hN3 p rfl)]; assumption)))))
        (first | (go_at_call 114; refine (brRead_some (HU.out.1.only (Only.refl _).drew) HU.out.2.2.1 (HU.out.2.1.only (Only.refl _).drew) (by decide) (by decide) (fun e => H.out.1.lay.nbb (.inl e)) (fun e => H.out.1.lay.nbb (.inr e)) hqs).mono ?_; rintro e w3 ⟨rfl, hbr, hrow3, hC3⟩; have hN3 : ∀ k, k = p → w3.heap[k]? = w1.heap[k]? := fun k hk => hC3.block k (by subst hk; exact HP.out.1.lt) (fun e => by subst hk; rcases e with e | e; exact H.out.1.lay.np (.inl e); exact H.out.1.lay.nb e); have HR3 := Lib.hid (And.intro hbr (And.intro hrow3 hC3)); clear hbr hrow3 hC3; have d4 := (HP.out.1.same (hN3 p rfl)).c4; have f4 := (HP.out.1.same (hN3 p rfl)).f 4; have d3 := (HP.out.1.same (hN3 p rfl)).c3; have f3 := (HP.out.1.same (hN3 p rfl)).f 3))
      go_wp2
      go_meet
      case rel =>
        obtain ⟨hbr, hrow3, hC3⟩ := HR3.out
        obtain ⟨hP, hC, hNe⟩ := HP.out
        have h := H.out.1
        have hN3 : w3.heap[p]? = w1.heap[p]? := hC3.block p hP.lt (fun e => by rcases e with e | e; exact h.lay.np (.inl e); exact h.lay.nb e)
        have hXl : (U.take 4096).length = min U.length 4096 := by rw [List.length_take, Nat.min_comm]
        have hP3 := ((hP.same hN3).set4 .nilIface).set3 ((min U.length 4096 : Nat) : Int)
        have N3 : ∀ k, k ≠ p → ((w3.setCell ⟨p, 4, none⟩ .nilIface).setCell ⟨p, 3, none⟩ (.int .i64 (min U.length 4096 : Nat))).heap[k]? = w3.heap[k]? := fun k hk => (Below.heap_setCell _ _ _ _ hk).trans (Below.heap_setCell _ _ _ _ hk)
        have hCa : Chg (Rd.S (KB q sb) p bb) w ((w3.setCell ⟨p, 4, none⟩ .nilIface).setCell ⟨p, 3, none⟩ (.int .i64 (min U.length 4096 : Nat))) :=
          ((hC.trans (((Only.refl w1).drew.chg _).trans (hC3.sub (fun k _ hk => by rcases hk with rfl | rfl; exact .inr (.inr (.inl rfl)); exact .inr (.inl rfl))))).setCell (p := ⟨p, 4, none⟩) (fun _ => .inl rfl) _).setCell (p := ⟨p, 3, none⟩) (fun _ => .inl rfl) _
        refine ⟨U.take 4096, U.drop 4096, 0, false, lb, lr, h.new hCa ?_ ⟨_, hrow3.same (N3 bb h.lay.nb.symm), ?_⟩ (by rw [hXl]; omega) ((KB q sb).same hbr fun k hk => N3 k (fun e => h.lay.np (e ▸ hk))) (fun e => by cases e), hCa, (List.take_append_drop _ _).trans HS.out, ?_⟩
        · rw [show ((0 + (U.take 4096).length : Nat) : Int) = ((min U.length 4096 : Nat) : Int) by rw [hXl]; omega]
          exact hP3
        · unfold splice
          rw [List.drop_zero, List.take_zero, List.nil_append, List.take_append_of_le_length (Nat.le_refl _), List.take_length]
        · rw [← List.length_pos_iff, hXl]; omega
    · have hrn : ((r : Int) == (n : Int)) = false := by
        have := H.out.2.2.2.2
        have := List.length_pos_iff.2 hB
        rw [beq_eq_false_iff_ne]; omega
      go_wp2
      go_meet
      case rel => exact ⟨B, U, r, z, lb, lr, H.out.1.only ((Only.refl _).drewN nq), (Chg.refl _ _).drewN nq, HS.out, hB⟩
  case rest =>
    obtain ⟨B1, U1, r1, z1, lb1, lr1, h1, hC1, hBU, hB1⟩ := hcut
    clear c0 c1 c2 c3
    have hgrow : RowB wc g N L := H.out.2.1.same (hC1.block g (H.out.2.1.lt hN) H.out.2.2.1)
    have hgS := H.out.2.2.1
    obtain ⟨n1, hn1⟩ : ∃ n1 : Nat, n1 = r1 + B1.length := ⟨_, rfl⟩
    obtain ⟨k, hk⟩ : ∃ k : Nat, k = min (n1 - r1) N := ⟨_, rfl⟩
    have hle := h1.le
    have hpos := List.length_pos_iff.2 hB1
    have hb1 : (r1 : Int) ≤ (n1 : Int) := by omega
    have hb2 : (n1 : Int) ≤ 4096 := by omega
    have hb3 : r1 ≤ n1 := by omega
    have hb4 : n1 ≤ 4096 := by omega
    have hr4 : ¬ 4096 = r1 := by omega
    have hk1 : 0 < k := by omega
    have hk2 : (r1 : Int) + (k : Int) ≤ 4096 := by omega
    have H1 := Lib.hid (And.intro h1 (And.intro hC1 (And.intro hBU (And.intro hgrow (And.intro hgS (And.intro hn1 (And.intro hk hB1)))))))
    clear h1 hC1 hBU hB1 hgrow hgS hn1 hk hle hpos HS
    go_wp2
    refine wp_still_drew 14 Tryd.mixedD (by kernel_rfl) (fun w2 hw2 => ?_)
    have hO2 : Only wc w2 := by rw [hw2]; exact (Only.refl wc).drew
    clear hw2
    have h := H1.out.1.only hO2
    have c0 := h.c.c0
    have c2 := h.c.c2
    have c3 := h.c.c3
    rw [← H1.out.2.2.2.2.2.1] at c3
    have H2 := Lib.hid (And.intro h hO2)
    clear h hO2
    simp only [List.take_succ_cons, List.take_zero, List.drop_succ_cons, List.drop_zero]
    repeat still_step
    refine wpStill_nil ?_
    obtain ⟨h, hO2⟩ := H2.out
    obtain ⟨h1, hC1, hBU, hgrow, hgS, hn1, hk, hB1⟩ := H1.out
    obtain ⟨L1, hL1, hLB1⟩ := h.row
    have hrb : RB w2 (some ⟨bb, r1, none⟩) B1 := hL1.rb r1 B1 hLB1 h.le
    refine wpList_copy_B rfl (.tmp 109) (.tmp 122) rfl g 0 N c rfl (some ⟨bb, r1, none⟩) (n1 - r1) (4096 - r1) rfl B1 (by omega) hrb (hgrow.only hO2) (by omega) k hk ?_
    have hXl : (B1.take k).length = k := by rw [List.length_take]; omega
    have R3 : RowB (w2.setCells g 0 (bts (B1.take k))) g N (splice L 0 (B1.take k)) := (hgrow.only hO2).setCells (by rw [hXl]; omega)
    have N3 : ∀ j, j ≠ g → (w2.setCells g 0 (bts (B1.take k))).heap[j]? = w2.heap[j]? := fun j hj => heap_setCells g _ _ _ _ hj
    have hpg : p ≠ g := fun e => hgS (.inl e.symm)
    have hbg : bb ≠ g := fun e => hgS (.inr (.inl e.symm))
    have C3 : Chg (fun j => Rd.S (KB q sb) p bb j ∨ j = g) w (w2.setCells g 0 (bts (B1.take k))) := ((hC1.trans (hO2.chg _)).sub (fun _ _ h => .inl h)).setCells (g := g) (fun _ => .inr rfl) _ _
    have P3 := h.c.same (N3 p hpg)
    have Q3 := hL1.same (N3 bb hbg)
    have U3 : (KB q sb).at_ (w2.setCells g 0 (bts (B1.take k))) U1 := (KB q sb).same h.u fun j hj => N3 j (fun e => hgS (.inr (.inr (e ▸ hj))))
    generalize w2.setCells g 0 (bts (B1.take k)) = w3 at R3 N3 C3 P3 Q3 U3 ⊢
    clear c0 c2 c3
    have c2 := P3.c2
    have f2 := P3.f 2
    have hPw := P3.set2 ((r1 : Int) + (k : Int))
    have H3 := Lib.hid (And.intro R3 (And.intro C3 (And.intro P3 (And.intro Q3 (And.intro U3 (And.intro hXl (And.intro hLB1 (And.intro hPw (And.intro hpg hbg)))))))))
    clear R3 N3 C3 P3 Q3 U3 hXl hLB1 hPw hpg hbg hL1 hrb h hO2 h1 hC1 hBU hgrow hgS hn1 hk hB1
    go_wp2
    obtain ⟨m1, hm1⟩ : ∃ m1 : Nat, r1 + k = m1 + 1 := ⟨r1 + k - 1, by omega⟩
    have H5 := H3.out.2.2.2.2.2.2.2.1
    rw [show (r1 : Int) + (k : Int) = (m1 : Int) + 1 by omega] at H5 ⊢
    have H4 := Lib.hid hm1
    have hm2 : (m1 : Int) + 1 ≤ 4096 := by omega
    have hm3 : (m1 : Int) < 4096 := by omega
    have N4 : ∀ j, j ≠ p → (w3.setCell ⟨p, 2, none⟩ (.int .i64 ((m1 : Int) + 1))).heap[j]? = w3.heap[j]? := fun j hj => Below.heap_setCell _ _ _ _ hj
    have C4 : Chg (fun j => Rd.S (KB q sb) p bb j ∨ j = g) w (w3.setCell ⟨p, 2, none⟩ (.int .i64 ((m1 : Int) + 1))) := H3.out.2.1.setCell (p := ⟨p, 2, none⟩) (fun _ => .inl (.inl rfl)) _
    generalize w3.setCell ⟨p, 2, none⟩ (.int .i64 ((m1 : Int) + 1)) = w4 at H5 N4 C4 ⊢
    have K4 := Lib.hid (And.intro H5 (And.intro N4 C4))
    clear H5 N4 C4 hm1 c2 f2
    refine wp_still_drew 15 Tryd.mixedD (by kernel_rfl) (fun w5 hw5 => ?_)
    have hO5 : Only w4 w5 := by rw [hw5]; exact (Only.refl w4).drew
    clear hw5
    obtain ⟨b, hb⟩ : ∃ b, b = L1.getD m1 0 := ⟨_, rfl⟩
    have hP5 := K4.out.1.same (hO5.at_ p)
    have c0 := hP5.c0
    have c2 := hP5.c2
    have f5 := hP5.f 5
    have f6 := hP5.f 6
    have c5 := hP5.c5
    have c6 := hP5.c6
    have cb : w5.cell? ⟨bb, m1, none⟩ = some (.int .u8 b.toNat) := by
      rw [hb]
      exact ((H3.out.2.2.2.1.same ((hO5.at_ bb).trans (K4.out.2.1 bb H2.out.1.lay.nb.symm))).cell (by omega))
    have hbn := byte_le b
    have hsub : IntKind.i64.wrap ((m1 : Int) + 1 - 1) = (m1 : Int) := by rw [IntKind.wrap_i64]; omega
    have hsub2 : IntKind.i64.wrap (m1 : Int) = (m1 : Int) := by rw [IntKind.wrap_i64]; omega
    have hm0 : (0 : Int) ≤ (m1 : Int) := by omega
    have K5 := Lib.hid (And.intro hO5 hP5)
    clear hO5 hP5 hb
    simp only [List.take_succ_cons, List.take_zero, List.drop_succ_cons, List.drop_zero]
    repeat still_step
    refine wpStill_nil ?_
    go_wp2
    go_ret2
    obtain ⟨R3, C3, P3, Q3, U3, hXl, hLB1, hPw, hpg, hbg⟩ := H3.out
    obtain ⟨H5, N4, C4⟩ := K4.out
    obtain ⟨hO5, hP5⟩ := K5.out
    obtain ⟨h1, hC1, hBU, hgrow, hgS, hn1, hk, hB1⟩ := H1.out
    have hm := H4.out
    have N6 : ∀ j, j ≠ p → ((w5.setCell ⟨p, 5, none⟩ (.int .i64 b.toNat)).setCell ⟨p, 6, none⟩ (.int .i64 (-1))).heap[j]? = w3.heap[j]? := fun j hj =>
      (Below.heap_setCell _ _ _ _ hj).trans ((Below.heap_setCell _ _ _ _ hj).trans ((hO5.at_ j).trans (N4 j hj)))
    have C6 : Chg (fun j => Rd.S (KB q sb) p bb j ∨ j = g) w ((w5.setCell ⟨p, 5, none⟩ (.int .i64 b.toNat)).setCell ⟨p, 6, none⟩ (.int .i64 (-1))) :=
      ((C4.trans (hO5.chg _)).setCell (p := ⟨p, 5, none⟩) (fun _ => .inl (.inl rfl)) _).setCell (p := ⟨p, 6, none⟩) (fun _ => .inl (.inl rfl)) _
    have hb6 : Below base w ((w5.setCell ⟨p, 5, none⟩ (.int .i64 b.toNat)).setCell ⟨p, 6, none⟩ (.int .i64 (-1))) := C6.below (fun j hj hs => by
      have hl := h1.lay
      rcases hs with (rfl | rfl | hs) | rfl
      · have := hl.bp; omega
      · have := hl.bb_; omega
      · have := hl.bo j hs; omega
      · omega) H.out.1.size
    have hnn : endEr (B1.take k) = .nil := by
      cases e : B1.take k with
      | nil => rw [e] at hXl; simp at hXl; omega
      | cons _ _ => rfl
    have hdl : (B1.drop k).length = n1 - (m1 + 1) := by rw [List.length_drop]; omega
    refine ⟨B1.take k, B1.drop k ++ U1, splice L 0 (B1.take k), ?_, by omega, ?_, fun e => ?_, R3.same (N6 g hpg.symm), ?_, ⟨B1.drop k, U1, m1 + 1, z1, b.toNat, -1, ?_, rfl⟩, C6⟩
    · rw [← List.append_assoc, List.take_append_drop, hBU]
    · rw [hnn, hXl]; rfl
    · rw [e] at hXl; simp at hXl; omega
    · unfold splice
      rw [List.take_zero, List.nil_append, List.take_append_of_le_length (Nat.le_refl _), List.take_length]
    · have hP6 := (hP5.set5 (b.toNat : Int)).set6 (-1)
      refine H.out.1.new' hb6 ?_ ⟨L1, Q3.same (N6 bb h1.lay.nb.symm), ?_⟩ (by omega) ((KB q sb).same U3 fun j hj => N6 j (fun e => h1.lay.np (e ▸ hj))) (fun e => ⟨(h1.end_ e).1, by have := (h1.end_ e).2; omega⟩)
      · rw [show ((m1 + 1 + (B1.drop k).length : Nat) : Int) = ((r1 + B1.length : Nat) : Int) by omega]
        exact hP6
      · have h6 : ((L1.drop r1).take B1.length).drop k = B1.drop k := by rw [hLB1]
        rw [List.drop_take, List.drop_drop] at h6
        rw [show m1 + 1 = r1 + k by omega, show (B1.drop k).length = B1.length - k by rw [List.length_drop]]
        exact h6
end Go.Proofs.YtilhgjcjofobeaaDoor
namespace Go.Proofs.YtilhgjcjofobeaaDoor
open Go.RowKit

theorem Rs.lay {K : Und} {base p bb : Nat} {E : Nat → Addr} {gs : List Nat} {w : World} {S : List UInt8} (h : Rs K base E gs p bb w S) : Lay K base p bb := by
  obtain ⟨B, U, r, z, lb, lr, h, _⟩ := h
  exact h.lay
theorem Rs.size {K : Und} {base p bb : Nat} {E : Nat → Addr} {gs : List Nat} {w : World} {S : List UInt8} (h : Rs K base E gs p bb w S) : base ≤ w.heap.size := by
  obtain ⟨B, U, r, z, lb, lr, h, _⟩ := h
  exact h.size
theorem Rs.S_lt {K : Und} {base p bb : Nat} {E : Nat → Addr} {gs : List Nat} {w : World} {S : List UInt8} (h : Rs K base E gs p bb w S) : ∀ k, Rd.S K p bb k → k < w.heap.size := by
  obtain ⟨B, U, r, z, lb, lr, h, _⟩ := h
  exact h.S_lt
theorem Rs.below {K : Und} {base p bb : Nat} {E : Nat → Addr} {gs : List Nat} {w w' : World} {S : List UInt8} (h : Rs K base E gs p bb w S) {N : Nat} (hb : Below N w w') (hN : ∀ k, Rd.S K p bb k → k < N) : Rs K base E gs p bb w' S := by
  obtain ⟨B, U, r, z, lb, lr, h, e⟩ := h
  exact ⟨B, U, r, z, lb, lr, h.below hb hN, e⟩
theorem readB_any {q sb : Nat} (hqs : sb ≠ q) {base p bb : Nat} {E : Nat → Addr} {gs : List Nat} {w : World} {S : List UInt8} (h : Rs (KB q sb) base E gs p bb w S) (hg : 0 ∈ gs)
    {g N c : Nat} {L : List UInt8} (hrow : RowB w g N L) (hN : 0 < N) (hN' : N < 4096) (hgS : ¬ Rd.S (KB q sb) p bb g) (hgb : base ≤ g) :
    Calls Tryd.prog 38 #[.pointer (some ⟨p, 0, none⟩), .slice (some ⟨g, 0, none⟩) N c] w (ReadEnd (KB q sb) base E gs p bb g N S w) := by
  obtain ⟨B, U, r, z, lb, lr, h, rfl⟩ := h
  by_cases he : B ++ U = []
  · obtain ⟨rfl, rfl⟩ := List.append_eq_nil_iff.1 he
    exact readB_end h hg hrow hN hN' hgS
  · exact readB_some hqs h he hrow hN hN' hgS hgb
theorem Appended.below {w w' : World} {base n c : Nat} {v : Value} {A : Option Addr} {l l0 : List UInt8} (hap : Appended w w' base v A n c l) (hown : OB w base v l0) (hbase : base ≤ w.heap.size) : Below base w w' :=
  (Below.refl _ _).grown hap.grown hbase (fun k hk => (hown.lt k hk).1)
theorem Chg.extend {S : Nat → Prop} {w wr w2 : World} {g : Nat} (h : Chg S w wr) (k : Chg (fun j => S j ∨ j = g) wr w2) (hg : w.heap.size ≤ g) : Chg S w w2 :=
  ⟨k.os.trans h.os, k.tape.trans h.tape, k.output.trans h.output, Nat.le_trans h.size k.size, fun i hi hs => (k.block i (Nat.lt_of_lt_of_le hi h.size) (fun e => by rcases e with e | e; exact hs e; omega)).trans (h.block i hi hs)⟩
/-- The loop's relation. -/
def RestRel (q sb base : Nat) (E : Nat → Addr) (gs : List Nat) (t p bb g M : Nat) (S : List UInt8) (w : World) (k : Nat) (u3 : Value) (wr : World) : Prop :=
  ∃ (acc S1 L : List UInt8), OB wr M u3 acc ∧ acc ++ S1 = S ∧ S1.length + 1 ≤ k ∧ Rs (KB q sb) base E gs p bb wr S1 ∧ RowB wr g 500 L ∧ wr.cell? ⟨t, 0, none⟩ = some (.pointer (some ⟨p, 0, none⟩)) ∧ Chg (Rd.S (KB q sb) p bb) w wr ∧ M ≤ wr.heap.size
set_option maxRecDepth 200000 in
set_option maxHeartbeats 1000000 in
theorem rest_chg {q sb : Nat} (hqs : sb ≠ q) {base t p bb : Nat} {E : Nat → Addr} {gs : List Nat} {w : World} {S : List UInt8} {buf : Value} (h : Tp (KB q sb) base E gs t p bb buf w S) (hg : 0 ∈ gs) (hS : S.length ≤ 140737488355328) :
    Calls Tryd.prog 22 #[.pointer (some ⟨t, 0, none⟩)] w fun e w' => RetB w' S e ∧ Chg (Rd.S (KB q sb) p bb) w w' := by
  obtain ⟨hbt, hts, hT, hR⟩ := h
  replace hR : Rs (KB q sb) base E gs p bb w S := hR
  have hmk : ∀ w, (Instr.makeSlice 23 (.int .i64 500) (.int .i64 500)).run Tryd.prog w = .ok (.slice (some ⟨w.heap.size, 0, none⟩) 500 500) (w.alloc (.cells (zeroRow 500) 5)) := fun w => Tryd.mkB 500 (by decide) w
  have H := Lib.hid (And.intro hbt (And.intro hts (And.intro hT hR)))
  clear hbt hts hT hR
  go_enter Tryd.func22, Tryd.ntmps22
  go_wp2
  go_loopg [3, 5, 6] (S.length + 1) (fun k u3 _ _ wr => RestRel q sb base E gs t p bb w.heap.size (w.heap.size + 1) S w k u3 wr)
  case atStart =>
    obtain ⟨hbt, hts, hT, hR⟩ := H.out
    have hb : Below w.heap.size w (w.alloc (.cells (zeroRow 500) 5)) := (Below.refl _ _).alloc (Nat.le_refl _) _
    exact ⟨[], S, _, OB.nil _ _, rfl, Nat.le_refl _, hR.below hb hR.S_lt, RowB.zero (Blk.new _ _ _), hT.c0.symm ▸ (hb.cell (p := ⟨t, 0, none⟩) hT.lt), (Chg.refl _ _).alloc _, by simp⟩
  case round =>
    obtain ⟨acc, S1, L, hown, hacc, hk, hR1, hrow, hc, hb, hM⟩ := hrel
    obtain ⟨A0, c0, hu0, _, _, _⟩ := hown.form
    subst hu0
    have hgS : ¬ Rd.S (KB q sb) p bb w.heap.size := fun e => by have := H.out.2.2.2.S_lt _ e; omega
    have hrd := readB_any hqs hR1 hg (c := 500) hrow (by decide) (by decide) hgS H.out.2.2.2.size
    have HD := Lib.hid hrd
    have HK := Lib.hid (And.intro hown (And.intro hacc (And.intro hk (And.intro hR1 (And.intro hrow (And.intro hc (And.intro hb (And.intro hM hgS))))))))
    clear hrd hown hacc hk hR1 hrow hb hM hgS
    go_wp2_with (go_at_call 38; refine HD.out.mono ?_; rintro e w2 ⟨X, S2, L2, hX, hXl, rfl, hXn, hrow2, hLX, hR2, hC2⟩; refine Hid.out ?_)
    have hL2 := Lib.hid (And.intro hX (And.intro hXn (And.intro hrow2 (And.intro hLX (And.intro hR2 hC2)))))
    have hXi : (X.length : Int) ≤ 500 := by omega
    obtain ⟨hown, hacc, hk, hR1, hrow, hcc, hb, hM, hgS⟩ := HK.out
    have hrb : RB w2 (some ⟨w.heap.size, 0, none⟩) X := hrow2.rb 0 X (by simpa using hLX) (by omega)
    have hown2 : OB w2 (w.heap.size + 1) (.slice A0 acc.length c0) acc := hown.chg hC2 (fun k hk => by
      rcases hk with hk | hk
      · have := H.out.2.2.2.S_lt k hk; omega
      · omega)
    have hal : acc.length + X.length ≤ 140737488355328 := by rw [← hacc, hX] at hS; simp at hS; omega
    have hM2 : w.heap.size + 1 ≤ w2.heap.size := Nat.le_trans hM hC2.size
    have HA := Lib.hid (And.intro hrb (And.intro hown2 (And.intro hal hM2)))
    clear hX hXn hrow2 hLX hR2 hC2 hown hacc hk hR1 hrow hcc hb hM hgS hrb hown2 hal hM2 hc
    rcases X with _ | ⟨x, X⟩
    · refine Lib.hid ?_
      simp only [endEr, Er.val, List.length_nil]
      go_simp
      go_wp2_with (refine at_appendB ?_; refine wpList_append_B rfl (.tmp 17) (.tmp 20) rfl (w.heap.size + 1) (.slice A0 acc.length c0) acc rfl HA.out.2.1 (some ⟨w.heap.size, 0, none⟩) [] 0 500 rfl rfl HA.out.1 HA.out.2.2.1 HA.out.2.2.2 acc.length (by simp) acc (by simp) ?_; intro A3 c3 w3 hap; have HP := Lib.hid hap; clear hap)
      go_ret
      obtain ⟨hX, hXn, hrow2, hLX, hR2, hC2⟩ := hL2.out
      obtain ⟨hown, hacc, hk, hR1, hrow, hcc, hb, hM, hgS⟩ := HK.out
      have hap := HP.out
      have hS1 : S1 = [] := hXn (by trivial)
      rw [hS1, List.append_nil] at hacc
      refine ⟨RetB.mk hacc hap.le hap.le' hap.read, ?_⟩
      exact (hb.extend hC2 (Nat.le_refl _)).of_below (hap.below HA.out.2.1 HA.out.2.2.2) (fun k hk _ => by omega)
    · refine Lib.hid ?_
      simp only [endEr, Er.val]
      generalize hY : x :: X = Y at *
      have HY := Lib.hid hY
      clear hY
      go_simp
      go_wp2_with (refine at_appendB ?_; refine wpList_append_B rfl (.tmp 17) (.tmp 20) rfl (w.heap.size + 1) (.slice A0 acc.length c0) acc rfl HA.out.2.1 (some ⟨w.heap.size, 0, none⟩) Y Y.length 500 rfl rfl HA.out.1 HA.out.2.2.1 HA.out.2.2.2 _ rfl _ rfl ?_; intro A3 c3 w3 hap; have HP := Lib.hid hap; clear hap)
      obtain ⟨hX, hXn, hrow2, hLX, hR2, hC2⟩ := hL2.out
      obtain ⟨hown, hacc, hk, hR1, hrow, hcc, hb, hM, hgS⟩ := HK.out
      have hap := HP.out
      have hYl : 0 < Y.length := by rw [← HY.out]; simp
      have hb3 := hap.below HA.out.2.1 HA.out.2.2.2
      have hsz := H.out.2.2.2.size
      have hC3 : Chg (fun k => Rd.S (KB q sb) p bb k ∨ k = w.heap.size) wr w2 := hC2
      go_roundg (S2.length + 1)
      case measure => rw [hX] at hk; simp at hk; omega
      case rel =>
        refine ⟨acc ++ Y, S2, L2, hap.own, ?_, Nat.le_refl _, hR2.below hb3 (fun k hk => by have := H.out.2.2.2.S_lt k hk; omega), hrow2.same (hb3.block _ (by omega)), ?_, ?_, ?_⟩
        · rw [List.append_assoc, ← hX, hacc]
        · have ht := H.out.2.2.1.lt
          rw [hb3.cell (p := ⟨t, 0, none⟩) (by show t < _; omega), World.cell?_of_block (hC3.block t (by have := hb.size; omega) (fun e => by rcases e with e | e; exact H.out.2.1 e; omega))]
          exact hcc
        · exact (hb.extend hC3 (Nat.le_refl _)).of_below hb3 (fun k hk _ => by omega)
        · have := hap.grown.size; have := HA.out.2.2.2; omega
theorem rest_any {q sb : Nat} (hqs : sb ≠ q) {base t p bb : Nat} {E : Nat → Addr} {gs : List Nat} {w : World} {S : List UInt8} {buf : Value} (h : Tp (KB q sb) base E gs t p bb buf w S) (hg : 0 ∈ gs) (hS : S.length ≤ 140737488355328) :
    Calls Tryd.prog 22 #[.pointer (some ⟨t, 0, none⟩)] w fun e w' => RetB w' S e ∧ Below base w w' :=
  (rest_chg hqs h hg hS).mono fun _ _ ⟨h1, h2⟩ => ⟨h1, h.frame h2⟩
end Go.Proofs.YtilhgjcjofobeaaDoor
namespace Go.Proofs.YtilhgjcjofobeaaDoor
open Go.RowKit

/-- A dot reader in block dr of the textproto.Reader in block t: state st, S is left. -/
structure Dt (K : Und) (base : Nat) (E : Nat → Addr) (gs : List Nat) (t p bb dr : Nat) (buf : Value) (st : Nat) (w : World) (S : List UInt8) : Prop where
  bt : base ≤ t
  bd : base ≤ dr
  td : t ≠ dr
  ts : ¬ Rd.S K p bb t
  ds : ¬ Rd.S K p bb dr
  tp : TpC w t p (.pointer (some ⟨dr, 0, none⟩)) buf
  blk : Blk w dr #[.pointer (some ⟨t, 0, none⟩), .int .i64 st] 148
  rs : Rs K base E gs p bb w S
section
variable {K : Und} {base t p bb dr : Nat} {E : Nat → Addr} {gs : List Nat} {buf : Value} {st : Nat} {w w' : World} {S S' : List UInt8}
/-- Behind a step of the bufio.Reader's own. -/
theorem Dt.step (h : Dt K base E gs t p bb dr buf st w S) (hc : Chg (Rd.S K p bb) w w') (hr : Rs K base E gs p bb w' S') : Dt K base E gs t p bb dr buf st w' S' :=
  ⟨h.bt, h.bd, h.td, h.ts, h.ds, h.tp.same (hc.block t h.tp.lt h.ts), h.blk.same (hc.block dr h.blk.lt h.ds), hr⟩
theorem Rs.blocks (h : Rs K base E gs p bb w S) (hb : ∀ k, Rd.S K p bb k → w'.heap[k]? = w.heap[k]?) (hB : Below base w w') : Rs K base E gs p bb w' S := by
  obtain ⟨B, U, r, z, lb, lr, h, e⟩ := h
  obtain ⟨L, hL, hLB⟩ := h.row
  exact ⟨B, U, r, z, lb, lr, ⟨h.lay, h.c.same (hb p (.inl rfl)), ⟨L, hL.same (hb bb (.inr (.inl rfl))), hLB⟩, h.le, K.same h.u (fun k hk => hb k (.inr (.inr hk))), h.end_, h.s.below hB⟩, e⟩
theorem Dt.setState (h : Dt K base E gs t p bb dr buf st w S) (st2 : Nat) : Dt K base E gs t p bb dr buf st2 (w.setCell ⟨dr, 1, none⟩ (.int .i64 st2)) S := by
  have N : ∀ k, k ≠ dr → (w.setCell ⟨dr, 1, none⟩ (.int .i64 st2)).heap[k]? = w.heap[k]? := fun k hk => Below.heap_setCell _ _ _ _ hk
  exact ⟨h.bt, h.bd, h.td, h.ts, h.ds, h.tp.same (N t h.td), h.blk.set 1 _, h.rs.blocks (fun k hk => N k (fun e => h.ds (e ▸ hk))) ((Below.refl _ _).setCell (p := ⟨dr, 1, none⟩) h.bd _)⟩
theorem Dt.setOther (h : Dt K base E gs t p bb dr buf st w S) {g : Nat} (hg : g ≠ t ∧ g ≠ dr ∧ ¬ Rd.S K p bb g) (hb : base ≤ g) (i : Nat) (v : Value) : Dt K base E gs t p bb dr buf st (w.setCell ⟨g, i, none⟩ v) S := by
  have N : ∀ k, k ≠ g → (w.setCell ⟨g, i, none⟩ v).heap[k]? = w.heap[k]? := fun k hk => Below.heap_setCell _ _ _ _ hk
  exact ⟨h.bt, h.bd, h.td, h.ts, h.ds, h.tp.same (N t (Ne.symm hg.1)), h.blk.same (N dr (Ne.symm hg.2.1)), h.rs.blocks (fun k hk => N k (fun e => hg.2.2 (e ▸ hk))) ((Below.refl _ _).setCell (p := ⟨g, i, none⟩) hb _)⟩
end
/-- What has been read so far: X, in the row from place o on. -/
structure DGot (K : Und) (base : Nat) (E : Nat → Addr) (gs : List Nat) (t p bb dr : Nat) (buf : Value) (st0 : Nat) (S0 : List UInt8) (g N o n : Nat) (L : List UInt8) (w : World) (X : List UInt8) (st : Nat) (S : List UInt8) (wr : World) : Prop where
  le : X.length ≤ n
  st5 : st ≤ 5
  dots : dots st0 S0 = (X ++ (dots st S).1, (dots st S).2)
  row : ∃ L', RowB wr g N L' ∧ (L'.drop o).take X.length = X ∧ L'.take o = L.take o
  chg : Chg (fun k => Rd.S K p bb k ∨ k = g ∨ k = dr ∨ k = t) w wr
/-- A step that gives nothing. -/
theorem DGot.silent {K : Und} {base t p bb dr st0 g N o n st st2 : Nat} {E : Nat → Addr} {gs : List Nat} {buf : Value} {S0 L X S S2 : List UInt8} {w wr w3 : World} (h : DGot K base E gs t p bb dr buf st0 S0 g N o n L w X st S wr)
    (hd : Go.Proofs.YtilhgjcjofobeaaDoor.dots st S = Go.Proofs.YtilhgjcjofobeaaDoor.dots st2 S2) (h5 : st2 ≤ 5) (hc : Chg (fun k => Rd.S K p bb k ∨ k = dr) wr w3) (hgs : ¬ Rd.S K p bb g) (hgd : g ≠ dr) (hgl : g < w.heap.size) : DGot K base E gs t p bb dr buf st0 S0 g N o n L w X st2 S2 w3 := by
  obtain ⟨L', h1, h2, h3⟩ := h.row
  refine ⟨h.le, h5, by rw [h.dots, hd], ⟨L', h1.same (hc.block g (Nat.lt_of_lt_of_le hgl h.chg.size) (fun e => by rcases e with e | e; exact hgs e; exact hgd e)), h2, h3⟩, h.chg.trans (hc.sub (fun k _ hk => by rcases hk with hk | hk; exact .inl hk; exact .inr (.inr (.inl hk))))⟩
/-- A step that gives a byte. -/
theorem DGot.emit {K : Und} {base t p bb dr st0 g N o n st st2 : Nat} {E : Nat → Addr} {gs : List Nat} {buf : Value} {S0 L X S S2 : List UInt8} {c : UInt8} {w wr w3 : World} (h : DGot K base E gs t p bb dr buf st0 S0 g N o n L w X st S wr)
    (hd : Go.Proofs.YtilhgjcjofobeaaDoor.dots st S = (c :: (Go.Proofs.YtilhgjcjofobeaaDoor.dots st2 S2).1, (Go.Proofs.YtilhgjcjofobeaaDoor.dots st2 S2).2)) (h5 : st2 ≤ 5) (hc : Chg (fun k => Rd.S K p bb k ∨ k = dr) wr w3) (hgs : ¬ Rd.S K p bb g) (hgd : g ≠ dr) (hlt : X.length < n) (hN : o + n ≤ N) :
    DGot K base E gs t p bb dr buf st0 S0 g N o n L w (X ++ [c]) st2 S2 (w3.setCell ⟨g, o + X.length, none⟩ (.int .u8 c.toNat)) := by
  obtain ⟨L', h1, h2, h3⟩ := h.row
  have h1' := h1.same (hc.block g (h1.lt (by omega)) (fun e => by rcases e with e | e; exact hgs e; exact hgd e))
  have hll := h1.len
  refine ⟨by simp; omega, h5, by rw [h.dots, hd]; simp, ⟨L'.set (o + X.length) c, h1'.set (by omega) c, ?_, ?_⟩, (h.chg.trans (hc.sub (fun k _ hk => by rcases hk with hk | hk; exact .inl hk; exact .inr (.inr (.inl hk))))).setCell (p := ⟨g, o + X.length, none⟩) (fun _ => .inr (.inl rfl)) _⟩
  · rw [List.length_append]
    show ((L'.set (o + X.length) c).drop o).take (X.length + 1) = X ++ [c]
    rw [List.drop_set, if_neg (by omega), show o + X.length - o = X.length by omega]
    have hl2 : X.length < (L'.drop o).length := by rw [List.length_drop]; omega
    rw [List.take_succ_eq_append_getElem (by rw [List.length_set]; exact hl2), List.take_set, h2, List.getElem_set_self]
    congr 1
    rw [List.set_eq_of_length_le (Nat.le_refl _)]
  · rw [List.take_set, h3]
    rw [List.set_eq_of_length_le (by rw [List.length_take]; omega)]
end Go.Proofs.YtilhgjcjofobeaaDoor
namespace Go.Proofs.YtilhgjcjofobeaaDoor
open Go.RowKit

theorem TSays.er {S l R : List UInt8} {er : Er} (h : TSays S l er R) : er = .nil ∨ er = .sent 0 := by
  induction h with
  | done _ => exact .inl rfl
  | err h1 he => cases h1 with
    | ended _ => exact .inr rfl
    | _ => exact absurd rfl he
  | step _ _ _ => exact .inl rfl
  | fall _ _ _ ih => exact ih
theorem TSays.lt {S l R : List UInt8} {er : Er} (h : TSays S l er R) (he : er = .nil) : R.length < S.length ∧ l.length ≤ S.length := by
  induction h with
  | done h1 => cases h1 with
    | line a r hl _ _ => rw [hl]; have := dropCR_le a; simp; omega
    | last hn _ _ => exact ⟨List.length_pos_iff.2 hn, Nat.le_refl _⟩
  | err _ h => exact absurd he h
  | step h1 _ ih =>
    have := h1.more_lt
    have := ih rfl
    rw [List.length_append]
    omega
  | fall _ _ h _ => exact absurd he h
/-- What ReadLine gives of a stream, call by call, up to the first error. -/
inductive LinesSays : List UInt8 → List (List UInt8) → Prop
  | stop {S l R : List UInt8} {er : Er} : TSays S l er R → er ≠ .nil → LinesSays S []
  | go {S l R : List UInt8} {ls : List (List UInt8)} : TSays S l .nil R → LinesSays R ls → LinesSays S (l :: ls)
theorem LinesSays.det {S : List UInt8} {ls ls' : List (List UInt8)} (h : LinesSays S ls) (h' : LinesSays S ls') : ls = ls' := by
  induction h generalizing ls' with
  | stop h1 he => cases h' with
    | stop _ _ => rfl
    | go k1 _ => exact absurd (h1.det k1).2.1 he
  | go h1 h2 ih => cases h' with
    | stop k1 ke => exact absurd (h1.det k1).2.1.symm ke
    | go k1 k2 =>
      obtain ⟨e1, _, e3⟩ := h1.det k1
      subst e1; subst e3
      rw [ih k2]
/-- The reference's Lines. -/
def linesAcc (acc : List UInt8) : List UInt8 → List (List UInt8)
  | [] => if acc = [] then [] else [acc]
  | c :: t => if c = 10 then dropCR acc :: linesAcc [] t else linesAcc (acc ++ [c]) t
theorem linesAcc_cons (acc : List UInt8) (c : UInt8) (t : List UInt8) : linesAcc acc (c :: t) = if c = 10 then dropCR acc :: linesAcc [] t else linesAcc (acc ++ [c]) t := rfl
theorem linesAcc_line (a r : List UInt8) (ha : 10 ∉ a) : ∀ acc, linesAcc acc (a ++ 10 :: r) = dropCR (acc ++ a) :: linesAcc [] r := by
  induction a with
  | nil => intro acc; simp [linesAcc]
  | cons c t ih =>
    intro acc
    rw [List.mem_cons, not_or] at ha
    rw [List.cons_append, linesAcc_cons, if_neg (Ne.symm ha.1), ih ha.2]
    simp
theorem linesAcc_tail (a : List UInt8) (ha : 10 ∉ a) : ∀ acc, linesAcc acc a = if acc ++ a = [] then [] else [acc ++ a] := by
  induction a with
  | nil => intro acc; simp [linesAcc]
  | cons c t ih =>
    intro acc
    rw [List.mem_cons, not_or] at ha
    rw [linesAcc_cons, if_neg (Ne.symm ha.1), ih ha.2]
    simp
/-- The reference's Tail. -/
def tailAcc (n : Nat) : List UInt8 → Nat
  | [] => n
  | c :: t => tailAcc (if c = 10 then 0 else n + 1) t
theorem tailAcc_cons (n : Nat) (c : UInt8) (t : List UInt8) : tailAcc n (c :: t) = tailAcc (if c = 10 then 0 else n + 1) t := rfl
theorem tailAcc_line (a r : List UInt8) : ∀ n, tailAcc n (a ++ 10 :: r) = tailAcc 0 r := by
  induction a with
  | nil => intro n; simp [tailAcc]
  | cons c t ih => intro n; rw [List.cons_append, tailAcc_cons, ih]
theorem tailAcc_none (a : List UInt8) (ha : 10 ∉ a) : ∀ n, tailAcc n a = n + a.length := by
  induction a with
  | nil => intro n; simp [tailAcc]
  | cons c t ih =>
    intro n
    rw [List.mem_cons, not_or] at ha
    rw [tailAcc_cons, if_neg (Ne.symm ha.1), ih ha.2]
    simp; omega
theorem lf_split (S : List UInt8) : 10 ∉ S ∨ ∃ a r, S = a ++ 10 :: r ∧ 10 ∉ a := by
  by_cases h : 10 ∈ S
  · obtain ⟨a, r, h1, h2⟩ := List.eq_append_cons_of_mem h
    exact .inr ⟨a, r, h1, h2⟩
  · exact .inl h
theorem LinesSays.law {S : List UInt8} {ls : List (List UInt8)} (h : LinesSays S ls) (ht : tailAcc 0 S < 4096) : ls = linesAcc [] S := by
  induction h with
  | @stop S l R er h1 he =>
    rcases lf_split S with h10 | ⟨a, r, hS, ha⟩
    · by_cases hn : S = []
      · subst hn; rfl
      · rw [tailAcc_none S h10] at ht
        exact absurd (h1.rest hn h10 (by omega)).1 he
    · exact absurd (h1.line hS ha).1 he
  | @go S l R ls h1 h2 ih =>
    rcases lf_split S with h10 | ⟨a, r, hS, ha⟩
    · by_cases hn : S = []
      · have := (h1.nil hn).1
        cases this
      · rw [tailAcc_none S h10] at ht
        obtain ⟨_, e2, e3⟩ := h1.rest hn h10 (by omega)
        subst e2; subst e3
        rw [ih (by simp [tailAcc]), linesAcc_tail _ h10]
        simp [linesAcc, hn]
    · obtain ⟨_, e2, e3⟩ := h1.line hS ha
      subst e2; subst e3
      rw [hS, tailAcc_line] at ht
      rw [hS, linesAcc_line a _ ha, ih ht]
      rfl
/-- Data of clean lines. -/
theorem linesAcc_feeds (ls : List (List UInt8)) (m : List UInt8) (h : ∀ l ∈ ls, Clean l) (hm : Clean m) : linesAcc [] (feeds ls ++ m) = ls ++ (if m = [] then [] else [m]) := by
  induction ls with
  | nil =>
    have := linesAcc_tail m (fun hx => (hm 10 hx).2 rfl) []
    simpa [feeds] using this
  | cons l t ih =>
    have e : feeds (l :: t) ++ m = l ++ 10 :: (feeds t ++ m) := by simp [feeds]
    have hc := h l (List.mem_cons_self ..)
    have hd : dropCR l = l := by
      rcases List.eq_nil_or_concat l with rfl | ⟨u, b, rfl⟩
      · exact dropCR_nil
      · rw [List.concat_eq_append] at *
        exact dropCR_other (hc b (by simp)).1
    rw [e, linesAcc_line l _ (fun hx => (hc 10 hx).2 rfl), ih (fun x hx => h x (List.mem_cons_of_mem _ hx))]
    simp [hd]
/-- Any data without CR are lines with LF, and what stands behind the last one. -/
theorem data_split (D : List UInt8) (h : 13 ∉ D) : ∃ ls m, D = feeds ls ++ m ∧ (∀ l ∈ ls, Clean l) ∧ Clean m := by
  induction hn : D.length using Nat.strongRecOn generalizing D with
  | ind n ih =>
    rcases lf_split D with h10 | ⟨a, r, hS, ha⟩
    · exact ⟨[], D, rfl, fun _ hx => (by cases hx), fun c hc => ⟨fun e => h (e ▸ hc), fun e => h10 (e ▸ hc)⟩⟩
    · have h13 : 13 ∉ r := fun hx => h (by rw [hS]; simp [hx])
      obtain ⟨ls, m, h1, h2, h3⟩ := ih r.length (by rw [← hn, hS]; simp; omega) r h13 rfl
      refine ⟨a :: ls, m, by rw [hS, h1]; simp [feeds], ?_, h3⟩
      intro l hl
      rcases List.mem_cons.1 hl with rfl | hl
      · exact fun c hc => ⟨fun e => h (by rw [hS]; subst e; simp [hc]), fun e => ha (e ▸ hc)⟩
      · exact h2 l hl
end Go.Proofs.YtilhgjcjofobeaaDoor
