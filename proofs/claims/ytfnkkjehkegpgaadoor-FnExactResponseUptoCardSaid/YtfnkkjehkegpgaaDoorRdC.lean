/- The walk of fill over a bytes.Reader, whole. -/
import Derived.Test.YtfnkkjehkegpgaaDoorRdB
import Derived.Deep.DeepCutAuto
namespace Go.Proofs.YtfnkkjehkegpgaaDoor
open Go.RowKit
set_option maxRecDepth 200000 in
set_option maxHeartbeats 8000000 in
/-- fill, over a bytes.Reader. -/
theorem fillB (q sb : Nat) (hqs : sb ≠ q) : FillOK (KB q sb) := by
  intro base E gs p bb w B U r lb lr h hB hg
  have c0 := h.c.c0
  have c1 := h.c.c1
  have c2 := h.c.c2
  have c3 := h.c.c3
  have hBi : ¬ 4096 ≤ B.length := by omega
  have H := Lib.hid h
  clear h
  go_enter Tryd.func59, Tryd.ntmps59
  go_upto_if 9 with (fail)
  go_cut [] (fun wx => Rd (KB q sb) base E gs p bb wx B U 0 false lb lr ∧ Chg (Rd.S (KB q sb) p bb) w wx)
  case first =>
    by_cases hr0 : r = 0
    · subst hr0
      go_wp2
      go_meet
      case rel => exact ⟨H.out, Chg.refl _ _⟩
    · have H0 := H
      have hrp : (0 : Int) < (r : Int) := by omega
      obtain ⟨n, hn⟩ : ∃ n : Nat, n = r + B.length := ⟨_, rfl⟩
      rw [← hn] at c3
      have hle := H.out.le
      have h1 : (r : Int) ≤ (n : Int) := by omega
      have h2 : (n : Int) ≤ 4096 := by omega
      have h3 : r ≤ n := by omega
      have h4 : n ≤ 4096 := by omega
      have hnr : n - r = B.length := by omega
      have hnr' : ((n : Int) - (r : Int)) = (B.length : Int) := by omega
      clear c1
      go_wp2
      have HN := Lib.hid (And.intro hn (And.intro hnr (And.intro hnr' hle)))
      clear hn hnr hnr' hle
      refine wp_still_drew 17 Tryd.mixedD (by kernel_rfl) (fun w2 hw2 => ?_)
      have hO2 : Only w w2 := by rw [hw2]; exact (Only.refl w).drew
      clear hw2
      have h := H.out.only hO2
      have d0 := h.c.c0
      have d2 := h.c.c2
      have d3 := h.c.c3
      rw [← HN.out.1] at d3
      have H2 := Lib.hid (And.intro h hO2)
      clear H c0 c2 c3 h hO2
      simp only [List.take_succ_cons, List.take_zero, List.drop_succ_cons, List.drop_zero]
      repeat still_step
      refine wpStill_nil ?_
      obtain ⟨h, hO2⟩ := H2.out
      obtain ⟨hn, hnr, hnr', hle⟩ := HN.out
      obtain ⟨L, hL, hLB⟩ := h.row
      have hrb : RB w2 (if 4096 = r then some ⟨bb, 0, none⟩ else some ⟨bb, r, none⟩) B := by
        split
        · have : B = [] := List.length_eq_zero_iff.1 (by omega)
          rw [this]; exact RB.nil _ _
        · exact hL.rb r B hLB (by omega)
      generalize (if 4096 = r then some (Addr.mk bb 0 none) else some (Addr.mk bb r none)) = A0 at hrb ⊢
      refine wpList_copy_B rfl (.tmp 13) (.tmp 26) rfl bb 0 4096 4096 rfl A0 (n - r) (4096 - r) rfl B hnr hrb hL (by omega) B.length (by omega) ?_
      rw [List.take_length]
      have R3 : RowB (w2.setCells bb 0 (bts B)) bb 4096 (splice L 0 B) := hL.setCells (by omega)
      have C3 : Chg (Rd.S (KB q sb) p bb) w (w2.setCells bb 0 (bts B)) := (hO2.chg _).setCells (g := bb) (fun _ => .inr (.inl rfl)) _ _
      have N3 : ∀ k, k ≠ bb → (w2.setCells bb 0 (bts B)).heap[k]? = w2.heap[k]? := fun k hk => heap_setCells bb _ _ _ _ hk
      have P3 : RdC (w2.setCells bb 0 (bts B)) p bb (KB q sb).rd (r : Int) (n : Int) (eofV E false) lb lr := by
        have := h.c.same (N3 p h.lay.nb)
        rw [← hn] at this
        exact this
      have U3 : (KB q sb).at_ (w2.setCells bb 0 (bts B)) U := (KB q sb).same h.u fun k hk => N3 k (fun e => h.lay.nbb (e ▸ hk))
      generalize w2.setCells bb 0 (bts B) = w3 at R3 C3 P3 U3 ⊢
      have H3 := Lib.hid (And.intro R3 (And.intro C3 (And.intro P3 U3)))
      clear d0 d2 d3 H2 h hO2 hL hLB hrb R3 C3 N3 P3 U3 hn hnr hnr' hle
      go_wp2
      refine wp_still_drew 11 Tryd.mixedD (by kernel_rfl) (fun w4 hw4 => ?_)
      have hO4 : Only w3 w4 := by rw [hw4]; exact (Only.refl w3).drew
      clear hw4
      have P4 := H3.out.2.2.1.same (hO4.at_ p)
      have d2 := P4.c2
      have d3 := P4.c3
      have H4 := Lib.hid (And.intro P4 hO4)
      clear P4 hO4
      simp only [List.take_succ_cons, List.take_zero, List.drop_succ_cons, List.drop_zero]
      repeat still_step
      refine wpStill_nil ?_
      have f2 := H4.out.1.f 2
      have f3 := H4.out.1.f 3
      go_wp2
      all_goals
        go_meet
        case rel =>
          obtain ⟨R3, C3, P3, U3⟩ := H3.out
          obtain ⟨P4, hO4⟩ := H4.out
          obtain ⟨hn, hnr, hnr', hle⟩ := HN.out
          have N : ∀ k, k ≠ p → ((w4.setCell ⟨p, 3, none⟩ (.int .i64 ((n : Int) - (r : Int)))).setCell ⟨p, 2, none⟩ (.int .i64 0)).heap[k]? = w3.heap[k]? := fun k hk =>
            ((Below.heap_setCell _ _ _ _ hk).trans (Below.heap_setCell _ _ _ _ hk)).trans (hO4.at_ k)
          have C : Chg (Rd.S (KB q sb) p bb) w ((w4.setCell ⟨p, 3, none⟩ (.int .i64 ((n : Int) - (r : Int)))).setCell ⟨p, 2, none⟩ (.int .i64 0)) :=
            ((C3.trans (hO4.chg _)).setCell (p := ⟨p, 3, none⟩) (fun _ => .inl rfl) _).setCell (p := ⟨p, 2, none⟩) (fun _ => .inl rfl) _
          refine ⟨H0.out.new C ?_ ⟨_, R3.same (N bb H0.out.lay.nb.symm), ?_⟩ (by omega) ((KB q sb).same U3 fun k hk => N k (fun e => H0.out.lay.np (e ▸ hk))) (fun e => by cases e), C⟩
          · have := (P4.set3 ((n : Int) - (r : Int))).set2 0
            rw [show ((0 + B.length : Nat) : Int) = (n : Int) - (r : Int) by omega]
            exact this
          · unfold splice
            simp
  case rest =>
    obtain ⟨h, hC⟩ := hcut
    clear c0 c1 c2 c3 H
    have c0 := h.c.c0
    have c2 := h.c.c2
    have c3 := h.c.c3
    simp only [Nat.zero_add] at c3
    have H := Lib.hid h
    have HC := Lib.hid hC
    clear h hC
    go_wp2
    go_quiet (fail)
    go_wp2
    go_loopw [2] (fun i w1 => i = .int .i64 100 ∧ Only wc w1) (fun _ _ => 0)
    case atStart => exact ⟨rfl, (Only.refl wc).drewN nq⟩
    case round =>
      obtain ⟨rfl, hO⟩ := hrel
      go_wp2
      have h := H.out.only hO
      clear H c0 c2 c3
      have c0 := h.c.c0
      have c1 : wr.cell? ⟨p, 1, none⟩ = some (.iface 57 (.pointer (some ⟨q, 0, none⟩))) := h.c.c1
      have c3 := h.c.c3
      simp only [Nat.zero_add] at c3
      have hBn : ¬ 4096 = B.length := by omega
      have hB2 : (B.length : Int) ≤ 4096 := by omega
      have hB3 : B.length ≤ 4096 := by omega
      have H := Lib.hid (And.intro h hO)
      clear h hO
      by_cases hU : U = []
      · subst hU
        go_region_held3 (fun w' => w'.cell? ⟨p, 0, none⟩ = some (.slice (some ⟨bb, 0, none⟩) 4096 4096) ∧ w'.cell? ⟨p, 1, none⟩ = some (.iface 57 (.pointer (some ⟨q, 0, none⟩))) ∧ w'.cell? ⟨p, 3, none⟩ = some (.int .i64 B.length))
          (first | go_keep | (refine ⟨?_, ?_, ?_⟩ <;> (rw [World.cell?_of_block (hO3.at_ p)]; assumption)))
          (first | (go_at_call 96; refine (brRead_end (H.out.1.only (Only.refl _).drew).u (H.out.1.only (Only.refl _).drew).s.s hg _).mono ?_; rintro e w3 ⟨rfl, hO3⟩))
        obtain ⟨h, hO⟩ := H.out
        have hO4 : Only wr w3 := (Only.refl wr).drew.trans hO3
        have h3 := h.only hO4
        have hO5 := hO.trans hO4
        have d3 := h3.c.c3
        have f3 := h3.c.f 3
        have d4 := h3.c.c4
        have f4 := h3.c.f 4
        simp only [Nat.zero_add] at d3
        have HH := Lib.hid (And.intro h3 hO5)
        clear H h hO hO3 hO4 h3 hO5 c0 c1 c3
        go_wp2
        ((try simp only [Exit.inBlock, Exit.then]); refine bodyPost_ret (results_none rfl _ _ _) rfl ?_)
        obtain ⟨h3, hO3⟩ := HH.out
        have C3 : Chg (Rd.S (KB q sb) p bb) w3 ((w3.setCell ⟨p, 3, none⟩ (.int .i64 B.length)).setCell ⟨p, 4, none⟩ (eofV E true)) :=
          (((Chg.refl (Rd.S (KB q sb) p bb) w3).setCell (p := ⟨p, 3, none⟩) (fun _ => .inl rfl) _).setCell (p := ⟨p, 4, none⟩) (fun _ => .inl rfl) _)
        have hne : ∀ k, k ≠ p → ((w3.setCell ⟨p, 3, none⟩ (.int .i64 B.length)).setCell ⟨p, 4, none⟩ (eofV E true)).heap[k]? = w3.heap[k]? := fun k hk =>
          (Below.heap_setCell _ _ _ _ hk).trans (Below.heap_setCell _ _ _ _ hk)
        refine ⟨rfl, ⟨[], [], rfl, ?_, fun _ => rfl⟩, HC.out.trans ((hO3.chg _).trans C3)⟩
        rw [List.append_nil]
        obtain ⟨L3, hL3, hB3'⟩ := h3.row
        refine h3.new C3 ?_ ⟨L3, hL3.same (hne bb h3.lay.nb.symm), hB3'⟩ h3.le ((KB q sb).same h3.u fun k hk => hne k (fun e => h3.lay.np (e ▸ hk))) (fun _ => ⟨rfl, by omega⟩)
        have := (h3.c.set3 (B.length : Int)).set4 (eofV E true)
        rw [show ((0 + B.length : Nat) : Int) = (B.length : Int) by omega]
        exact this
      · have hN1 : 0 < 4096 - B.length := by omega
        have hN2 : B.length + (4096 - B.length) ≤ 4096 := by omega
        have hUl : 0 < min U.length (4096 - B.length) := by have := List.length_pos_iff.2 hU; omega
        have hUi : ¬ ((min U.length (4096 - B.length) : Nat) : Int) ≤ 0 := by omega
        obtain ⟨L, hL, hLB⟩ := H.out.1.row
        have HL := Lib.hid (And.intro hL hLB)
        clear hL hLB
        go_region_held3 (fun w' => w'.cell? ⟨p, 0, none⟩ = some (.slice (some ⟨bb, 0, none⟩) 4096 4096) ∧ w'.cell? ⟨p, 1, none⟩ = some (.iface 57 (.pointer (some ⟨q, 0, none⟩))) ∧ w'.cell? ⟨p, 3, none⟩ = some (.int .i64 B.length))
          (first | go_keep | (refine ⟨?_, ?_, ?_⟩ <;> (rw [World.cell?_of_block (hC3.block p H.out.1.c.lt (fun e => by rcases e with e | e; exact H.out.1.lay.np (.inl e); exact H.out.1.lay.nb e))]; assumption)))
          (first | (go_at_call 96; refine (brRead_some (H.out.1.only (Only.refl _).drew).u hU (HL.out.1.same rfl) hN1 hN2 (fun e => H.out.1.lay.nbb (.inl e)) (fun e => H.out.1.lay.nbb (.inr e)) hqs).mono ?_; rintro e w3 ⟨rfl, hbr, hrow3, hC3⟩))
        obtain ⟨h, hO⟩ := H.out
        have hpn : ¬ (p = q ∨ p = bb) := fun e => by rcases e with e | e; exact h.lay.np (.inl e); exact h.lay.nb e
        have cp : RdC w3 p bb (KB q sb).rd (0 : Nat) ((0 + B.length : Nat) : Int) (eofV E false) lb lr := h.c.same (hC3.block p h.c.lt hpn)
        have d3 := cp.c3
        have f3 := cp.f 3
        simp only [Nat.zero_add] at d3
        have C : Chg (Rd.S (KB q sb) p bb) wc w3 := (hO.chg _).trans (((Only.refl wr).drew.chg _).trans (hC3.sub (fun k _ hk => by rcases hk with rfl | rfl; exact .inr (.inr (.inl rfl)); exact .inr (.inl rfl))))
        have HH := Lib.hid (And.intro hbr (And.intro hrow3 (And.intro cp (And.intro C (And.intro hO hC3)))))
        clear hbr hrow3 cp hC3 C hO h c0 c1 c3 hpn
        go_wp2
        ((try simp only [Exit.inBlock, Exit.then]); refine bodyPost_ret (results_none rfl _ _ _) rfl ?_)
        obtain ⟨hbr, hrow3, cp, C, hO, hC3⟩ := HH.out
        obtain ⟨h, _⟩ := H.out
        obtain ⟨hL, hLB⟩ := HL.out
        have hXl : (U.take (4096 - B.length)).length = min U.length (4096 - B.length) := by rw [List.length_take, Nat.min_comm]
        have hXe : (U.take (4096 - B.length)).isEmpty = false := by
          rw [List.isEmpty_eq_false_iff]
          intro e
          rw [e] at hXl
          simp only [List.length_nil] at hXl
          omega
        have hne : ∀ k, k ≠ p → (w3.setCell ⟨p, 3, none⟩ (.int .i64 ((B.length : Int) + (min U.length (4096 - B.length) : Nat)))).heap[k]? = w3.heap[k]? := fun k hk => Below.heap_setCell _ _ _ _ hk
        have C4 : Chg (Rd.S (KB q sb) p bb) wc (w3.setCell ⟨p, 3, none⟩ (.int .i64 ((B.length : Int) + (min U.length (4096 - B.length) : Nat)))) := C.setCell (p := ⟨p, 3, none⟩) (fun _ => .inl rfl) _
        refine ⟨rfl, ⟨U.take (4096 - B.length), U.drop (4096 - B.length), (List.take_append_drop _ _).symm, ?_, fun e => ?_⟩, HC.out.trans C4⟩
        · rw [hXe]
          have hw := H.out.1
          have Cw : Chg (Rd.S (KB q sb) p bb) wr (w3.setCell ⟨p, 3, none⟩ (.int .i64 ((B.length : Int) + (min U.length (4096 - B.length) : Nat)))) :=
            ((((Only.refl wr).drew.chg _).trans (hC3.sub (fun k _ hk => by rcases hk with rfl | rfl; exact .inr (.inr (.inl rfl)); exact .inr (.inl rfl)))).setCell (p := ⟨p, 3, none⟩) (fun _ => .inl rfl) _)
          refine hw.new Cw ?_ ⟨_, hrow3.same (hne bb h.lay.nb.symm), ?_⟩ (by rw [List.length_append, hXl]; omega) ((KB q sb).same hbr fun k hk => hne k (fun e => h.lay.np (e ▸ hk))) (fun e => by cases e)
          · have := cp.set3 ((B.length : Int) + (min U.length (4096 - B.length) : Nat))
            rw [show ((0 + (B ++ U.take (4096 - B.length)).length : Nat) : Int) = (B.length : Int) + (min U.length (4096 - B.length) : Nat) by rw [List.length_append, hXl]; omega]
            exact this
          · have h0 : L.take B.length = B := by simpa using hLB
            unfold splice
            rw [h0, List.drop_zero, List.take_append_of_le_length (Nat.le_refl _), List.take_length]
        · exfalso
          rw [e] at hXe
          cases hXe
end Go.Proofs.YtfnkkjehkegpgaaDoor
