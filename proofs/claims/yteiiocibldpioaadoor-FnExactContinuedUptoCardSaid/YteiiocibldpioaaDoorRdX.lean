/- The walks of bufio's ReadByte and UnreadByte, over any reader beneath. -/
import Derived.Test.YteiiocibldpioaaDoorRdR
import Derived.Deep.LoopGhost
namespace Go.Proofs.YteiiocibldpioaaDoor
open Go.RowKit

/-- What ReadByte leaves: a byte, which may be put back; or the end. -/
def ByteEnd (K : Und) (base : Nat) (E : Nat → Addr) (gs : List Nat) (p bb : Nat) (S : List UInt8) (w : World) (e : Ending) (w' : World) : Prop :=
  (∃ (c : UInt8) (S' B U : List UInt8) (r : Nat) (z : Bool), S = c :: S' ∧ e = .returned (.tuple #[.int .u8 c.toNat, .nilIface]) ∧ Rd K base E gs p bb w' B U (r + 1) z c.toNat (-1) ∧ B ++ U = S' ∧ Chg (Rd.S K p bb) w w') ∨
  (S = [] ∧ e = .returned (.tuple #[.int .u8 0, (Er.sent 1).val E]) ∧ Rs K base E gs p bb w' [] ∧ Chg (Rd.S K p bb) w w')
set_option maxRecDepth 200000 in
set_option maxHeartbeats 4000000 in
theorem readByte_any {K : Und} (hK : FillOK K) {base p bb : Nat} {E : Nat → Addr} {gs : List Nat} {w : World} {S : List UInt8} (h : Rs K base E gs p bb w S) (hg : 1 ∈ gs) :
    Calls Tryd.prog 82 #[.pointer (some ⟨p, 0, none⟩)] w (ByteEnd K base E gs p bb S w) := by
  obtain ⟨B, U, r, z, lb, lr, h, hS⟩ := h
  have d6 := h.c.c6
  have f6 := h.c.f 6
  have H := Lib.hid (And.intro h hS)
  clear h hS
  go_enter Tryd.func82, Tryd.ntmps82
  go_wp2
  go_loopg [] 3 (fun k wr => ∃ (B U : List UInt8) (r : Nat) (z : Bool) (lb : Int), Rd K base E gs p bb wr B U r z lb (-1) ∧ Chg (Rd.S K p bb) w wr ∧ B ++ U = S ∧ (if B = [] then (if z then 1 else 2) else 0) < k)
  case atStart =>
    obtain ⟨h, hS⟩ := H.out
    have N : ∀ k, k ≠ p → (w.setCell ⟨p, 6, none⟩ (.int .i64 (-1))).heap[k]? = w.heap[k]? := fun k hk => Below.heap_setCell _ _ _ _ hk
    have C : Chg (Rd.S K p bb) w (w.setCell ⟨p, 6, none⟩ (.int .i64 (-1))) := (Chg.refl _ _).setCell (p := ⟨p, 6, none⟩) (fun _ => .inl rfl) _
    obtain ⟨L, hL, hLB⟩ := h.row
    refine ⟨B, U, r, z, lb, h.new C (h.c.set6 (-1)) ⟨L, hL.same (N bb h.lay.nb.symm), hLB⟩ h.le (K.same h.u fun k hk => N k (fun e => h.lay.np (e ▸ hk))) h.end_, C, hS, ?_⟩
    split
    · split <;> omega
    · omega
  case round =>
    obtain ⟨B1, U1, r1, z1, lb1, h1, hC1, hS1, hk⟩ := hrel
    obtain ⟨n1, hn1⟩ : ∃ n1 : Nat, n1 = r1 + B1.length := ⟨_, rfl⟩
    have c2 := h1.c.c2
    have c3 := h1.c.c3
    rw [← hn1] at c3
    have H1 := Lib.hid (And.intro h1 (And.intro hC1 (And.intro hS1 (And.intro hk hn1))))
    by_cases hB : B1 = []
    · subst hB
      have hrn : n1 = r1 := by simpa using hn1
      subst hrn
      have hk2 : (if z1 = true then 1 else 2) < gk := by simpa using hk
      clear h1 hC1 hS1 hk hn1 d6 f6
      cases z1
      · have c4 : wr.cell? ⟨p, 4, none⟩ = some .nilIface := H1.out.1.c.c4
        have hfl : ∀ m, Calls Tryd.prog 85 #[.pointer (some ⟨p, 0, none⟩)] (wr.drewN m) (FillEnd K base E gs p bb [] U1 lb1 (-1) (wr.drewN m)) := fun m => hK base E gs p bb (wr.drewN m) [] U1 n1 lb1 (-1) (H1.out.1.only ((Only.refl _).drewN m)) (by simp) hg
        have HF := Lib.hid hfl
        clear hfl
        go_wp2
        go_quiet (fail)
        go_wp2_with (go_at_call 85; refine (HF.out nq).mono ?_; rintro e w2 ⟨rfl, ⟨X, U2, hU, hR, hX⟩, hC2⟩; have H2 := Lib.hid (And.intro hU (And.intro hR (And.intro hX hC2))); clear hU hR hX hC2)
        obtain ⟨hU, hR, hX, hC2⟩ := H2.out
        have hC3 : Chg (Rd.S K p bb) w w2 := H1.out.2.1.trans (((Chg.refl _ wr).drewN nq).trans hC2)
        go_roundg (if X = [] then 2 else 1)
        case measure => split <;> (simp at hk2; omega)
        case rel =>
          refine ⟨[] ++ X, U2, 0, X.isEmpty, lb1, hR, hC3, ?_, ?_⟩
          · rw [List.nil_append, ← hU, ← H1.out.2.2.1]; rfl
          · rw [List.nil_append]
            split
            · rename_i hXe
              subst hXe
              simp
            · simp
      · have c4 : wr.cell? ⟨p, 4, none⟩ = some (eofV E true) := H1.out.1.c.c4
        simp only [eofV] at c4
        have hP := H1.out.1.c
        have HP := Lib.hid hP
        clear hP
        go_wp2
        go_quiet (fail)
        go_wp2_with (go_at_call 72; refine (readErr_any (HP.out.drewN nq)).mono ?_; rintro e w4 ⟨rfl, rfl⟩)
        go_ret2
        obtain ⟨h, hC, hS, _, _⟩ := H1.out
        have hU : U1 = [] := (h.end_ rfl).1
        subst hU
        have C3 : Chg (Rd.S K p bb) wr ((wr.drewN nq).setCell ⟨p, 4, none⟩ .nilIface) := ((Chg.refl _ wr).drewN nq).setCell (p := ⟨p, 4, none⟩) (fun _ => .inl rfl) _
        have N3 : ∀ k, k ≠ p → ((wr.drewN nq).setCell ⟨p, 4, none⟩ .nilIface).heap[k]? = wr.heap[k]? := fun k hk => Below.heap_setCell _ _ _ _ hk
        obtain ⟨L0, hL, hLB⟩ := h.row
        refine .inr ⟨hS.symm, rfl, ⟨[], [], n1, false, lb1, -1, ?_, rfl⟩, hC.trans C3⟩
        exact h.new C3 ((HP.out.drewN nq).set4 .nilIface) ⟨L0, hL.same (N3 bb h.lay.nb.symm), hLB⟩ h.le (K.same h.u fun k hk => N3 k (fun e => h.lay.np (e ▸ hk))) (fun e => by cases e)
    · obtain ⟨c, t, rfl⟩ := List.exists_cons_of_ne_nil hB
      have hle := h1.le
      rw [List.length_cons] at hn1 hle
      have hrn : ((r1 : Int) == (n1 : Int)) = false := by rw [beq_eq_false_iff_ne]; omega
      have hr1 : (r1 : Int) < 4096 := by omega
      have hr2 : r1 < 4096 := by omega
      have H2 := Lib.hid (And.intro hn1 hle)
      clear h1 hC1 hS1 hk hn1 d6 f6 hle hB
      go_wp2
      go_quiet (fail)
      have hO2 : Only wr (wr.drewN nq) := (Only.refl _).drewN nq
      generalize wr.drewN nq = w2 at hO2 ⊢
      have h := H1.out.1.only hO2
      obtain ⟨L, hL, hLB⟩ := h.row
      have hcb : w2.cell? ⟨bb, r1, none⟩ = some (.int .u8 c.toNat) := by
        have := (hL.rb r1 (c :: t) hLB h.le).at_ 0 c rfl
        rwa [Nat.add_zero] at this
      clear c2 c3
      have c0 := h.c.c0
      have c2 := h.c.c2
      have hbn := byte_le c
      have HL := Lib.hid (And.intro h hO2)
      clear h hL hLB hO2
      go_wp2
      go_quiet (fail)
      have hO3 : Only w2 (w2.drewN nq) := (Only.refl _).drewN nq
      generalize w2.drewN nq = w3 at hO3 ⊢
      have h := HL.out.1.only hO3
      have d2 := h.c.c2
      have f2 := h.c.f 2
      have f5 := h.c.f 5
      have d5 := h.c.c5
      have H3 := Lib.hid (And.intro h hO3)
      clear h hO3 c0 c2 hcb
      go_wp2
      go_ret2
      obtain ⟨h, hO3⟩ := H3.out
      obtain ⟨_, hO2⟩ := HL.out
      obtain ⟨_, hC, hS, _, _⟩ := H1.out
      obtain ⟨hn1, hle⟩ := H2.out
      have N3 : ∀ k, k ≠ p → ((w3.setCell ⟨p, 2, none⟩ (.int .i64 ((r1 : Int) + 1))).setCell ⟨p, 5, none⟩ (.int .i64 c.toNat)).heap[k]? = w3.heap[k]? := fun k hk => (Below.heap_setCell _ _ _ _ hk).trans (Below.heap_setCell _ _ _ _ hk)
      have C3 : Chg (Rd.S K p bb) w3 ((w3.setCell ⟨p, 2, none⟩ (.int .i64 ((r1 : Int) + 1))).setCell ⟨p, 5, none⟩ (.int .i64 c.toNat)) := ((Chg.refl _ _).setCell (p := ⟨p, 2, none⟩) (fun _ => .inl rfl) _).setCell (p := ⟨p, 5, none⟩) (fun _ => .inl rfl) _
      obtain ⟨L, hL, hLB⟩ := h.row
      have hP := (h.c.set2 ((r1 : Int) + 1)).set5 (c.toNat : Int)
      refine .inl ⟨c, t ++ U1, t, U1, r1, z1, hS.symm, rfl, h.new C3 ?_ ⟨L, hL.same (N3 bb h.lay.nb.symm), ?_⟩ (by omega) (K.same h.u fun k hk => N3 k (fun e => h.lay.np (e ▸ hk))) (fun e => ⟨(h.end_ e).1, by have := (h.end_ e).2; rw [List.length_cons] at this; omega⟩), rfl, hC.trans ((hO2.chg _).trans ((hO3.chg _).trans C3))⟩
      · rw [show ((r1 + 1 + t.length : Nat) : Int) = ((r1 + (c :: t).length : Nat) : Int) by rw [List.length_cons]; omega]
        exact hP
      · have h6 : ((L.drop r1).take (c :: t).length).drop 1 = t := by rw [hLB]; rfl
        rw [List.drop_take, List.drop_drop] at h6
        exact h6
end Go.Proofs.YteiiocibldpioaaDoor
