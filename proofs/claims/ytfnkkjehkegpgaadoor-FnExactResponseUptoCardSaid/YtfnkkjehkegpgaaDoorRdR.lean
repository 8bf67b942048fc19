/- The walk of bufio's Read into a row of fewer than 4096 bytes, over a bytes.Reader. -/
import Derived.Test.YtfnkkjehkegpgaaDoorRdM
namespace Go.Proofs.YtfnkkjehkegpgaaDoor
open Go.RowKit

theorem BR.only {q sb : Nat} {w w' : World} {U : List UInt8} (h : BR q sb w U) (ho : Only w w') : BR q sb w' U := h.same fun k _ => ho.at_ k
theorem Sens.only {w w' : World} {E : Nat → Addr} {gs : List Nat} (h : Sens w E gs) (ho : Only w w') : Sens w' E gs := h.of_blocks fun g _ => ⟨ho.at_ g, ho.at_ _⟩
theorem RowB.only {w w' : World} {g N : Nat} {L : List UInt8} (h : RowB w g N L) (ho : Only w w') : RowB w' g N L := h.same (ho.at_ g)
/-- A bufio.Reader that has S left. -/
def Rs (K : Und) (base : Nat) (E : Nat → Addr) (gs : List Nat) (p bb : Nat) (w : World) (S : List UInt8) : Prop :=
  ∃ (B U : List UInt8) (r : Nat) (z : Bool) (lb lr : Int), Rd K base E gs p bb w B U r z lb lr ∧ B ++ U = S
/-- The error behind what was read. -/
def endEr : List UInt8 → Er
  | [] => .sent 0
  | _ :: _ => .nil
/-- What Read leaves: X in the row's beginning. -/
def ReadEnd (K : Und) (base : Nat) (E : Nat → Addr) (gs : List Nat) (p bb g N : Nat) (S : List UInt8) (w : World) (e : Ending) (w' : World) : Prop :=
  ∃ (X S' L : List UInt8), S = X ++ S' ∧ X.length ≤ N ∧ e = .returned (.tuple #[.int .i64 X.length, (endEr X).val E]) ∧ (X = [] → S = []) ∧ RowB w' g N L ∧ L.take X.length = X ∧ Rs K base E gs p bb w' S' ∧ Chg (fun k => Rd.S K p bb k ∨ k = g) w w'

set_option maxRecDepth 200000 in
set_option maxHeartbeats 4000000 in
theorem readB_end {q sb : Nat} {base p bb : Nat} {E : Nat → Addr} {gs : List Nat} {w : World} {r : Nat} {z : Bool} {lb lr : Int} (h : Rd (KB q sb) base E gs p bb w [] [] r z lb lr) (hg : 0 ∈ gs)
    {g N c : Nat} {L : List UInt8} (hrow : RowB w g N L) (hN : 0 < N) (hN' : N < 4096) (hgS : ¬ Rd.S (KB q sb) p bb g) :
    Calls Tryd.prog 36 #[.pointer (some ⟨p, 0, none⟩), .slice (some ⟨g, 0, none⟩) N c] w (ReadEnd (KB q sb) base E gs p bb g N [] w) := by
  have c0 := h.c.c0
  have c1 : w.cell? ⟨p, 1, none⟩ = some (.iface 57 (.pointer (some ⟨q, 0, none⟩))) := h.c.c1
  have c2 := h.c.c2
  have c3 := h.c.c3
  have c4 := h.c.c4
  simp only [List.length_nil, Nat.add_zero] at c3
  have H := Lib.hid (And.intro h (And.intro hrow hgS))
  have hN2 : (N : Int) < 4096 := by omega
  clear hrow hgS
  cases z
  · simp only [eofV] at c4
    clear h
    go_enter Tryd.func36, Tryd.ntmps36
    go_wp2
    go_quiet (fail)
    have h := H.out.1
    have d2 := (h.c.drewN nq).c2
    have e2 := (h.c.drewN nq).f 2
    have e3 := (h.c.drewN nq).f 3
    have hP := ((h.c.drewN nq).set2 0).set3 0
    have hC : Chg (Rd.S (KB q sb) p bb) w (((w.drewN nq).setCell ⟨p, 2, none⟩ (.int .i64 0)).setCell ⟨p, 3, none⟩ (.int .i64 0)) := (((Chg.refl _ w).drewN nq).setCell (p := ⟨p, 2, none⟩) (fun _ => .inl rfl) _).setCell (p := ⟨p, 3, none⟩) (fun _ => .inl rfl) _
    have hNe : ∀ k, k ≠ p → (((w.drewN nq).setCell ⟨p, 2, none⟩ (.int .i64 0)).setCell ⟨p, 3, none⟩ (.int .i64 0)).heap[k]? = w.heap[k]? := fun k hk => (Below.heap_setCell _ _ _ _ hk).trans (Below.heap_setCell _ _ _ _ hk)
    have HP := Lib.hid (And.intro hP (And.intro hC hNe))
    clear hP hC hNe h
    go_wp2
    generalize (((w.drewN nq).setCell ⟨p, 2, none⟩ (.int .i64 0)).setCell ⟨p, 3, none⟩ (.int .i64 0)) = w1 at HP ⊢
    clear c0 c1 c2 c3 c4 d2 e2 e3
    have c0 := HP.out.1.c0
    have c1 : w1.cell? ⟨p, 1, none⟩ = some (.iface 57 (.pointer (some ⟨q, 0, none⟩))) := HP.out.1.c1
    have hu : BR q sb w1 [] := (KB q sb).same H.out.1.u fun k hk => HP.out.2.2 k (fun e => H.out.1.lay.np (e ▸ hk))
    have hs : Sens w1 E gs := (H.out.1.s.below (H.out.1.lay.below HP.out.2.1 H.out.1.size)).s
    have HU := Lib.hid (And.intro hu hs)
    clear hu hs
    go_region_held3 (fun w' => w'.cell? ⟨p, 0, none⟩ = some (.slice (some ⟨bb, 0, none⟩) 4096 4096) ∧ w'.cell? ⟨p, 1, none⟩ = some (.iface 57 (.pointer (some ⟨q, 0, none⟩))))
      (first | go_keep | (refine ⟨?_, ?_⟩ <;> (first | (rw [World.cell?_of_block (hO3.at_ p)]; assumption) | (rw [World.cell?_setCell_other _ _ _ _ (by simp)]; first | assumption | (rw [World.cell?_of_block (hO3.at_ p)]; assumption)))))
      (first | (go_at_call 96; refine (brRead_end (HU.out.1.only (Only.refl _).drew) (HU.out.2.only (Only.refl _).drew) hg _).mono ?_; rintro e w3 ⟨rfl, hO3⟩; have d4 := (HP.out.1.same (((Only.refl w1).drew.trans hO3).at_ p)).c4; have f4 := (HP.out.1.same (((Only.refl w1).drew.trans hO3).at_ p)).f 4))
    go_wp2
    go_ret2
    obtain ⟨h, hrow, hgS⟩ := H.out
    obtain ⟨hP, hC, hNe⟩ := HP.out
    have hO := (Only.refl w1).drew.trans hO3
    have hP3 := ((hP.same (hO.at_ p)).set4 (eofV E true)).set4 .nilIface
    have N3 : ∀ k, k ≠ p → ((w3.setCell ⟨p, 4, none⟩ (eofV E true)).setCell ⟨p, 4, none⟩ .nilIface).heap[k]? = w.heap[k]? := fun k hk => (Below.heap_setCell _ _ _ _ hk).trans ((Below.heap_setCell _ _ _ _ hk).trans ((hO.at_ k).trans (hNe k hk)))
    have C3 : Chg (Rd.S (KB q sb) p bb) w ((w3.setCell ⟨p, 4, none⟩ (eofV E true)).setCell ⟨p, 4, none⟩ .nilIface) := ((hC.trans (hO.chg _)).setCell (p := ⟨p, 4, none⟩) (fun _ => .inl rfl) _).setCell (p := ⟨p, 4, none⟩) (fun _ => .inl rfl) _
    obtain ⟨L0, hL, hLB⟩ := h.row
    refine ⟨[], [], L, rfl, Nat.zero_le _, rfl, fun _ => rfl, hrow.same (N3 g (fun e => hgS (.inl e))), rfl, ⟨[], [], 0, false, lb, lr, ?_, rfl⟩, C3.sub (fun _ _ h => .inl h)⟩
    exact h.new C3 hP3 ⟨L0, hL.same (N3 bb h.lay.nb.symm), rfl⟩ (by simp) ((KB q sb).same h.u fun k hk => N3 k (fun e => h.lay.np (e ▸ hk))) (fun e => by cases e)
  · have hP := h.c
    have HP := Lib.hid hP
    clear h hP
    simp only [eofV] at c4
    go_enter Tryd.func36, Tryd.ntmps36
    go_wp2
    go_quiet (fail)
    go_wp2_with (go_at_call 42; refine (readErr_any (HP.out.drewN nq)).mono ?_; rintro e w4 ⟨rfl, rfl⟩)
    go_ret2
    obtain ⟨h, hrow, hgS⟩ := H.out
    have C3 : Chg (Rd.S (KB q sb) p bb) w ((w.drewN nq).setCell ⟨p, 4, none⟩ .nilIface) := ((Chg.refl _ w).drewN nq).setCell (p := ⟨p, 4, none⟩) (fun _ => .inl rfl) _
    have N3 : ∀ k, k ≠ p → ((w.drewN nq).setCell ⟨p, 4, none⟩ .nilIface).heap[k]? = w.heap[k]? := fun k hk => Below.heap_setCell _ _ _ _ hk
    obtain ⟨L0, hL, hLB⟩ := h.row
    refine ⟨[], [], L, rfl, Nat.zero_le _, rfl, fun _ => rfl, hrow.same (N3 g (fun e => hgS (.inl e))), rfl, ⟨[], [], r, false, lb, lr, ?_, rfl⟩, C3.sub (fun _ _ h => .inl h)⟩
    exact h.new C3 ((HP.out.drewN nq).set4 .nilIface) ⟨L0, hL.same (N3 bb h.lay.nb.symm), hLB⟩ h.le ((KB q sb).same h.u fun k hk => N3 k (fun e => h.lay.np (e ▸ hk))) (fun e => by cases e)
end Go.Proofs.YtfnkkjehkegpgaaDoor
