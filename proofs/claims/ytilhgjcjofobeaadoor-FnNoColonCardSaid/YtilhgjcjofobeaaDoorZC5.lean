/- The walk of bufio's Read into a row of fewer than 4096 bytes, over a bytes.Reader. | The walks of bufio's ReadByte and UnreadByte, over any reader beneath. | The walk of bufio's UnreadByte, behind a ReadByte. | The walk of skipSpace. | The walk of textproto's trim. | Continued lines: what readContinuedLineSlice says of a stream, as relations; of well long lines it says their pieces with a space between two of them. No program is named. -/
import Derived.Test.YtilhgjcjofobeaaDoorZC4
import Derived.Deep.LoopGhost
namespace Go.Proofs.YtilhgjcjofobeaaDoor
open Go.RowKit

theorem BR.only {q sb : Nat} {w w' : World} {U : List UInt8} (h : BR q sb w U) (ho : Only w w') : BR q sb w' U := h.same fun k _ => ho.at_ k
theorem Sens.only {w w' : World} {E : Nat → Addr} {gs : List Nat} (h : Sens w E gs) (ho : Only w w') : Sens w' E gs := h.of_blocks fun g _ => ⟨ho.at_ g, ho.at_ _⟩
theorem RowB.only {w w' : World} {g N : Nat} {L : List UInt8} (h : RowB w g N L) (ho : Only w w') : RowB w' g N L := h.same (ho.at_ g)
/-- A bufio.Reader that has S left. -/
def Rs (K : Und) (base : Nat) (E : Nat → Addr) (gs : List Nat) (p bb : Nat) (w : World) (S : List UInt8) : Prop :=
  ∃ (B U : List UInt8) (r : Nat) (z : Bool) (lb lr : Int), Rd K base E gs p bb w B U r z lb lr ∧ B ++ U = S
/-- The error behind what was read. -/
def endEr : List UInt8 → Er
  | [] => .sent 0
  | _ :: _ => .nil
/-- What Read leaves: X in the row's beginning. -/
def ReadEnd (K : Und) (base : Nat) (E : Nat → Addr) (gs : List Nat) (p bb g N : Nat) (S : List UInt8) (w : World) (e : Ending) (w' : World) : Prop :=
  ∃ (X S' L : List UInt8), S = X ++ S' ∧ X.length ≤ N ∧ e = .returned (.tuple #[.int .i64 X.length, (endEr X).val E]) ∧ (X = [] → S = []) ∧ RowB w' g N L ∧ L.take X.length = X ∧ Rs K base E gs p bb w' S' ∧ Chg (fun k => Rd.S K p bb k ∨ k = g) w w'

set_option maxRecDepth 200000 in
set_option maxHeartbeats 4000000 in
theorem readB_end {q sb : Nat} {base p bb : Nat} {E : Nat → Addr} {gs : List Nat} {w : World} {r : Nat} {z : Bool} {lb lr : Int} (h : Rd (KB q sb) base E gs p bb w [] [] r z lb lr) (hg : 0 ∈ gs)
    {g N c : Nat} {L : List UInt8} (hrow : RowB w g N L) (hN : 0 < N) (hN' : N < 4096) (hgS : ¬ Rd.S (KB q sb) p bb g) :
    Calls Tryd.prog 38 #[.pointer (some ⟨p, 0, none⟩), .slice (some ⟨g, 0, none⟩) N c] w (ReadEnd (KB q sb) base E gs p bb g N [] w) := by
  have c0 := h.c.c0
  have c1 : w.cell? ⟨p, 1, none⟩ = some (.iface 66 (.pointer (some ⟨q, 0, none⟩))) := h.c.c1
  have c2 := h.c.c2
  have c3 := h.c.c3
  have c4 := h.c.c4
  simp only [List.length_nil, Nat.add_zero] at c3
  have H := Lib.hid (And.intro h (And.intro hrow hgS))
  have hN2 : (N : Int) < 4096 := by omega
  clear hrow hgS
  cases z
  · simp only [eofV] at c4
    clear h
    go_enter Tryd.func38, Tryd.ntmps38
    go_wp2
    go_quiet (fail)
    have h := H.out.1
    have d2 := (h.c.drewN nq).c2
    have e2 := (h.c.drewN nq).f 2
    have e3 := (h.c.drewN nq).f 3
    have hP := ((h.c.drewN nq).set2 0).set3 0
    have hC : Chg (Rd.S (KB q sb) p bb) w (((w.drewN nq).setCell ⟨p, 2, none⟩ (.int .i64 0)).setCell ⟨p, 3, none⟩ (.int .i64 0)) := (((Chg.refl _ w).drewN nq).setCell (p := ⟨p, 2, none⟩) (fun _ => .inl rfl) _).setCell (p := ⟨p, 3, none⟩) (fun _ => .inl rfl) _
    have hNe : ∀ k, k ≠ p → (((w.drewN nq).setCell ⟨p, 2, none⟩ (.int .i64 0)).setCell ⟨p, 3, none⟩ (.int .i64 0)).heap[k]? = w.heap[k]? := fun k hk => (Below.heap_setCell _ _ _ _ hk).trans (Below.heap_setCell _ _ _ _ hk)
    have HP := Lib.hid (And.intro hP (And.intro hC hNe))
    clear hP hC hNe h
    go_wp2
    generalize (((w.drewN nq).setCell ⟨p, 2, none⟩ (.int .i64 0)).setCell ⟨p, 3, none⟩ (.int .i64 0)) = w1 at HP ⊢
    clear c0 c1 c2 c3 c4 d2 e2 e3
    have c0 := HP.out.1.c0
    have c1 : w1.cell? ⟨p, 1, none⟩ = some (.iface 66 (.pointer (some ⟨q, 0, none⟩))) := HP.out.1.c1
    have hu : BR q sb w1 [] := (KB q sb).same H.out.1.u fun k hk => HP.out.2.2 k (fun e => H.out.1.lay.np (e ▸ hk))
    have hs : Sens w1 E gs := (H.out.1.s.below (H.out.1.lay.below HP.out.2.1 H.out.1.size)).s
    have HU := Lib.hid (And.intro hu hs)
    clear hu hs
    go_region_held3 (fun w' => w'.cell? ⟨p, 0, none⟩ = some (.slice (some ⟨bb, 0, none⟩) 4096 4096) ∧ w'.cell? ⟨p, 1, none⟩ = some (.iface 66 (.pointer (some ⟨q, 0, none⟩))))
      (first | go_keep | (refine ⟨?_, ?_⟩ <;> (first | (rw [World.cell?_of_block (hO3.at_ p)]; assumption) | (rw [World.cell?_setCell_other _ _ _ _ (by simp)]; first | assumption | (rw [World.cell?_of_block (hO3.at_ p)]; assumption)))))
      (first | (go_at_call 114; refine (brRead_end (HU.out.1.only (Only.refl _).drew) (HU.out.2.only (Only.refl _).drew) hg _).mono ?_; rintro e w3 ⟨rfl, hO3⟩; have d4 := (HP.out.1.same (((Only.refl w1).drew.trans hO3).at_ p)).c4; have f4 := (HP.out.1.same (((Only.refl w1).drew.trans hO3).at_ p)).f 4))
    go_wp2
    go_ret2
    obtain ⟨h, hrow, hgS⟩ := H.out
    obtain ⟨hP, hC, hNe⟩ := HP.out
    have hO := (Only.refl w1).drew.trans hO3
    have hP3 := ((hP.same (hO.at_ p)).set4 (eofV E true)).set4 .nilIface
    have N3 : ∀ k, k ≠ p → ((w3.setCell ⟨p, 4, none⟩ (eofV E true)).setCell ⟨p, 4, none⟩ .nilIface).heap[k]? = w.heap[k]? := fun k hk => (Below.heap_setCell _ _ _ _ hk).trans ((Below.heap_setCell _ _ _ _ hk).trans ((hO.at_ k).trans (hNe k hk)))
    have C3 : Chg (Rd.S (KB q sb) p bb) w ((w3.setCell ⟨p, 4, none⟩ (eofV E true)).setCell ⟨p, 4, none⟩ .nilIface) := ((hC.trans (hO.chg _)).setCell (p := ⟨p, 4, none⟩) (fun _ => .inl rfl) _).setCell (p := ⟨p, 4, none⟩) (fun _ => .inl rfl) _
    obtain ⟨L0, hL, hLB⟩ := h.row
    refine ⟨[], [], L, rfl, Nat.zero_le _, rfl, fun _ => rfl, hrow.same (N3 g (fun e => hgS (.inl e))), rfl, ⟨[], [], 0, false, lb, lr, ?_, rfl⟩, C3.sub (fun _ _ h => .inl h)⟩
    exact h.new C3 hP3 ⟨L0, hL.same (N3 bb h.lay.nb.symm), rfl⟩ (by simp) ((KB q sb).same h.u fun k hk => N3 k (fun e => h.lay.np (e ▸ hk))) (fun e => by cases e)
  · have hP := h.c
    have HP := Lib.hid hP
    clear h hP
    simp only [eofV] at c4
    go_enter Tryd.func38, Tryd.ntmps38
    go_wp2
    go_quiet (fail)
    go_wp2_with (go_at_call 64; refine (readErr_any (HP.out.drewN nq)).mono ?_; rintro e w4 ⟨rfl, rfl⟩)
    go_ret2
    obtain ⟨h, hrow, hgS⟩ := H.out
    have C3 : Chg (Rd.S (KB q sb) p bb) w ((w.drewN nq).setCell ⟨p, 4, none⟩ .nilIface) := ((Chg.refl _ w).drewN nq).setCell (p := ⟨p, 4, none⟩) (fun _ => .inl rfl) _
    have N3 : ∀ k, k ≠ p → ((w.drewN nq).setCell ⟨p, 4, none⟩ .nilIface).heap[k]? = w.heap[k]? := fun k hk => Below.heap_setCell _ _ _ _ hk
    obtain ⟨L0, hL, hLB⟩ := h.row
    refine ⟨[], [], L, rfl, Nat.zero_le _, rfl, fun _ => rfl, hrow.same (N3 g (fun e => hgS (.inl e))), rfl, ⟨[], [], r, false, lb, lr, ?_, rfl⟩, C3.sub (fun _ _ h => .inl h)⟩
    exact h.new C3 ((HP.out.drewN nq).set4 .nilIface) ⟨L0, hL.same (N3 bb h.lay.nb.symm), hLB⟩ h.le ((KB q sb).same h.u fun k hk => N3 k (fun e => h.lay.np (e ▸ hk))) (fun e => by cases e)
end Go.Proofs.YtilhgjcjofobeaaDoor
namespace Go.Proofs.YtilhgjcjofobeaaDoor
open Go.RowKit

/-- What ReadByte leaves: a byte, which may be put back; or the end. -/
def ByteEnd (K : Und) (base : Nat) (E : Nat → Addr) (gs : List Nat) (p bb : Nat) (S : List UInt8) (w : World) (e : Ending) (w' : World) : Prop :=
  (∃ (c : UInt8) (S' B U : List UInt8) (r : Nat) (z : Bool), S = c :: S' ∧ e = .returned (.tuple #[.int .u8 c.toNat, .nilIface]) ∧ Rd K base E gs p bb w' B U (r + 1) z c.toNat (-1) ∧ B ++ U = S' ∧ Chg (Rd.S K p bb) w w') ∨
  (S = [] ∧ e = .returned (.tuple #[.int .u8 0, (Er.sent 0).val E]) ∧ Rs K base E gs p bb w' [] ∧ Chg (Rd.S K p bb) w w')
set_option maxRecDepth 200000 in
set_option maxHeartbeats 4000000 in
theorem readByte_any {K : Und} (hK : FillOK K) {base p bb : Nat} {E : Nat → Addr} {gs : List Nat} {w : World} {S : List UInt8} (h : Rs K base E gs p bb w S) (hg : 0 ∈ gs) :
    Calls Tryd.prog 89 #[.pointer (some ⟨p, 0, none⟩)] w (ByteEnd K base E gs p bb S w) := by
  obtain ⟨B, U, r, z, lb, lr, h, hS⟩ := h
  have d6 := h.c.c6
  have f6 := h.c.f 6
  have H := Lib.hid (And.intro h hS)
  clear h hS
  go_enter Tryd.func89, Tryd.ntmps89
  go_wp2
  go_loopg [] 3 (fun k wr => ∃ (B U : List UInt8) (r : Nat) (z : Bool) (lb : Int), Rd K base E gs p bb wr B U r z lb (-1) ∧ Chg (Rd.S K p bb) w wr ∧ B ++ U = S ∧ (if B = [] then (if z then 1 else 2) else 0) < k)
  case atStart =>
    obtain ⟨h, hS⟩ := H.out
    have N : ∀ k, k ≠ p → (w.setCell ⟨p, 6, none⟩ (.int .i64 (-1))).heap[k]? = w.heap[k]? := fun k hk => Below.heap_setCell _ _ _ _ hk
    have C : Chg (Rd.S K p bb) w (w.setCell ⟨p, 6, none⟩ (.int .i64 (-1))) := (Chg.refl _ _).setCell (p := ⟨p, 6, none⟩) (fun _ => .inl rfl) _
    obtain ⟨L, hL, hLB⟩ := h.row
    refine ⟨B, U, r, z, lb, h.new C (h.c.set6 (-1)) ⟨L, hL.same (N bb h.lay.nb.symm), hLB⟩ h.le (K.same h.u fun k hk => N k (fun e => h.lay.np (e ▸ hk))) h.end_, C, hS, ?_⟩
    split
    · split <;> omega
    · omega
  case round =>
    obtain ⟨B1, U1, r1, z1, lb1, h1, hC1, hS1, hk⟩ := hrel
    obtain ⟨n1, hn1⟩ : ∃ n1 : Nat, n1 = r1 + B1.length := ⟨_, rfl⟩
    have c2 := h1.c.c2
    have c3 := h1.c.c3
    rw [← hn1] at c3
    have H1 := Lib.hid (And.intro h1 (And.intro hC1 (And.intro hS1 (And.intro hk hn1))))
    by_cases hB : B1 = []
    · subst hB
      have hrn : n1 = r1 := by simpa using hn1
      subst hrn
      have hk2 : (if z1 = true then 1 else 2) < gk := by simpa using hk
      clear h1 hC1 hS1 hk hn1 d6 f6
      cases z1
      · have c4 : wr.cell? ⟨p, 4, none⟩ = some .nilIface := H1.out.1.c.c4
        have hfl : ∀ m, Calls Tryd.prog 67 #[.pointer (some ⟨p, 0, none⟩)] (wr.drewN m) (FillEnd K base E gs p bb [] U1 lb1 (-1) (wr.drewN m)) := fun m => hK base E gs p bb (wr.drewN m) [] U1 n1 lb1 (-1) (H1.out.1.only ((Only.refl _).drewN m)) (by simp) hg
        have HF := Lib.hid hfl
        clear hfl
        go_wp2
        go_quiet (fail)
        go_wp2_with (go_at_call 67; refine (HF.out nq).mono ?_; rintro e w2 ⟨rfl, ⟨X, U2, hU, hR, hX⟩, hC2⟩; have H2 := Lib.hid (And.intro hU (And.intro hR (And.intro hX hC2))); clear hU hR hX hC2)
        obtain ⟨hU, hR, hX, hC2⟩ := H2.out
        have hC3 : Chg (Rd.S K p bb) w w2 := H1.out.2.1.trans (((Chg.refl _ wr).drewN nq).trans hC2)
        go_roundg (if X = [] then 2 else 1)
        case measure => split <;> (simp at hk2; omega)
        case rel =>
          refine ⟨[] ++ X, U2, 0, X.isEmpty, lb1, hR, hC3, ?_, ?_⟩
          · rw [List.nil_append, ← hU, ← H1.out.2.2.1]; rfl
          · rw [List.nil_append]
            split
            · rename_i hXe
              subst hXe
              simp
            · simp
      · have c4 : wr.cell? ⟨p, 4, none⟩ = some (eofV E true) := H1.out.1.c.c4
        simp only [eofV] at c4
        have hP := H1.out.1.c
        have HP := Lib.hid hP
        clear hP
        go_wp2
        go_quiet (fail)
        go_wp2_with (go_at_call 64; refine (readErr_any (HP.out.drewN nq)).mono ?_; rintro e w4 ⟨rfl, rfl⟩)
        go_ret2
        obtain ⟨h, hC, hS, _, _⟩ := H1.out
        have hU : U1 = [] := (h.end_ rfl).1
        subst hU
        have C3 : Chg (Rd.S K p bb) wr ((wr.drewN nq).setCell ⟨p, 4, none⟩ .nilIface) := ((Chg.refl _ wr).drewN nq).setCell (p := ⟨p, 4, none⟩) (fun _ => .inl rfl) _
        have N3 : ∀ k, k ≠ p → ((wr.drewN nq).setCell ⟨p, 4, none⟩ .nilIface).heap[k]? = wr.heap[k]? := fun k hk => Below.heap_setCell _ _ _ _ hk
        obtain ⟨L0, hL, hLB⟩ := h.row
        refine .inr ⟨hS.symm, rfl, ⟨[], [], n1, false, lb1, -1, ?_, rfl⟩, hC.trans C3⟩
        exact h.new C3 ((HP.out.drewN nq).set4 .nilIface) ⟨L0, hL.same (N3 bb h.lay.nb.symm), hLB⟩ h.le (K.same h.u fun k hk => N3 k (fun e => h.lay.np (e ▸ hk))) (fun e => by cases e)
    · obtain ⟨c, t, rfl⟩ := List.exists_cons_of_ne_nil hB
      have hle := h1.le
      rw [List.length_cons] at hn1 hle
      have hrn : ((r1 : Int) == (n1 : Int)) = false := by rw [beq_eq_false_iff_ne]; omega
      have hr1 : (r1 : Int) < 4096 := by omega
      have hr2 : r1 < 4096 := by omega
      have H2 := Lib.hid (And.intro hn1 hle)
      clear h1 hC1 hS1 hk hn1 d6 f6 hle hB
      go_wp2
      go_quiet (fail)
      have hO2 : Only wr (wr.drewN nq) := (Only.refl _).drewN nq
      generalize wr.drewN nq = w2 at hO2 ⊢
      have h := H1.out.1.only hO2
      obtain ⟨L, hL, hLB⟩ := h.row
      have hcb : w2.cell? ⟨bb, r1, none⟩ = some (.int .u8 c.toNat) := by
        have := (hL.rb r1 (c :: t) hLB h.le).at_ 0 c rfl
        rwa [Nat.add_zero] at this
      clear c2 c3
      have c0 := h.c.c0
      have c2 := h.c.c2
      have hbn := byte_le c
      have HL := Lib.hid (And.intro h hO2)
      clear h hL hLB hO2
      go_wp2
      go_quiet (fail)
      have hO3 : Only w2 (w2.drewN nq) := (Only.refl _).drewN nq
      generalize w2.drewN nq = w3 at hO3 ⊢
      have h := HL.out.1.only hO3
      have d2 := h.c.c2
      have f2 := h.c.f 2
      have f5 := h.c.f 5
      have d5 := h.c.c5
      have H3 := Lib.hid (And.intro h hO3)
      clear h hO3 c0 c2 hcb
      go_wp2
      go_ret2
      obtain ⟨h, hO3⟩ := H3.out
      obtain ⟨_, hO2⟩ := HL.out
      obtain ⟨_, hC, hS, _, _⟩ := H1.out
      obtain ⟨hn1, hle⟩ := H2.out
      have N3 : ∀ k, k ≠ p → ((w3.setCell ⟨p, 2, none⟩ (.int .i64 ((r1 : Int) + 1))).setCell ⟨p, 5, none⟩ (.int .i64 c.toNat)).heap[k]? = w3.heap[k]? := fun k hk => (Below.heap_setCell _ _ _ _ hk).trans (Below.heap_setCell _ _ _ _ hk)
      have C3 : Chg (Rd.S K p bb) w3 ((w3.setCell ⟨p, 2, none⟩ (.int .i64 ((r1 : Int) + 1))).setCell ⟨p, 5, none⟩ (.int .i64 c.toNat)) := ((Chg.refl _ _).setCell (p := ⟨p, 2, none⟩) (fun _ => .inl rfl) _).setCell (p := ⟨p, 5, none⟩) (fun _ => .inl rfl) _
      obtain ⟨L, hL, hLB⟩ := h.row
      have hP := (h.c.set2 ((r1 : Int) + 1)).set5 (c.toNat : Int)
      refine .inl ⟨c, t ++ U1, t, U1, r1, z1, hS.symm, rfl, h.new C3 ?_ ⟨L, hL.same (N3 bb h.lay.nb.symm), ?_⟩ (by omega) (K.same h.u fun k hk => N3 k (fun e => h.lay.np (e ▸ hk))) (fun e => ⟨(h.end_ e).1, by have := (h.end_ e).2; rw [List.length_cons] at this; omega⟩), rfl, hC.trans ((hO2.chg _).trans ((hO3.chg _).trans C3))⟩
      · rw [show ((r1 + 1 + t.length : Nat) : Int) = ((r1 + (c :: t).length : Nat) : Int) by rw [List.length_cons]; omega]
        exact hP
      · have h6 : ((L.drop r1).take (c :: t).length).drop 1 = t := by rw [hLB]; rfl
        rw [List.drop_take, List.drop_drop] at h6
        exact h6
end Go.Proofs.YtilhgjcjofobeaaDoor
namespace Go.Proofs.YtilhgjcjofobeaaDoor
open Go.RowKit

set_option maxRecDepth 200000 in
set_option maxHeartbeats 4000000 in
theorem unreadByte_any {K : Und} {base p bb : Nat} {E : Nat → Addr} {gs : List Nat} {w : World} {B U : List UInt8} {r : Nat} {z : Bool} {c : UInt8} {lr : Int} (h : Rd K base E gs p bb w B U (r + 1) z c.toNat lr) :
    Calls Tryd.prog 90 #[.pointer (some ⟨p, 0, none⟩)] w fun e w' => e = .returned .nilIface ∧ Rd K base E gs p bb w' (c :: B) U r z (-1) (-1) ∧ Chg (Rd.S K p bb) w w' := by
  have c2 : w.cell? ⟨p, 2, none⟩ = some (.int .i64 ((r : Int) + 1)) := by
    have := h.c.c2
    rwa [show ((r + 1 : Nat) : Int) = (r : Int) + 1 by omega] at this
  have c3 := h.c.c3
  have c5 := h.c.c5
  have f2 := h.c.f 2
  obtain ⟨n1, hn1⟩ : ∃ n1 : Nat, n1 = r + 1 + B.length := ⟨_, rfl⟩
  rw [← hn1] at c3
  have hle := h.le
  have hr : (r : Int) < 4096 := by omega
  have hr0 : (0 : Int) ≤ (r : Int) := by omega
  have hbn := byte_le c
  have hb0 : (0 : Int) ≤ (c.toNat : Int) := by omega
  have hz : ((r : Int) + 1 == 0) = false := by rw [beq_eq_false_iff_ne]; omega
  have hlt : decide ((c.toNat : Int) < 0) = false := by rw [decide_eq_false_iff_not]; omega
  have H := Lib.hid (And.intro h hn1)
  clear h hn1 hle
  go_enter Tryd.func90, Tryd.ntmps90
  go_wp2
  obtain ⟨h, hn1⟩ := H.out
  have P1 := h.c.set2 (r : Int)
  have N1 : ∀ k, k ≠ p → (w.setCell ⟨p, 2, none⟩ (.int .i64 (r : Int))).heap[k]? = w.heap[k]? := fun k hk => Below.heap_setCell _ _ _ _ hk
  have C1 : Chg (Rd.S K p bb) w (w.setCell ⟨p, 2, none⟩ (.int .i64 (r : Int))) := (Chg.refl _ _).setCell (p := ⟨p, 2, none⟩) (fun _ => .inl rfl) _
  generalize w.setCell ⟨p, 2, none⟩ (.int .i64 (r : Int)) = w1 at P1 N1 C1 ⊢
  obtain ⟨L, hL, hLB⟩ := h.row
  have R1 := hL.same (N1 bb h.lay.nb.symm)
  have U1 := K.same h.u fun k hk => N1 k (fun e => h.lay.np (e ▸ hk))
  clear c2 c3 c5 f2
  refine wp_still_drew 14 Tryd.mixedD (by kernel_rfl) (fun w2 hw2 => ?_)
  have hO2 : Only w1 w2 := by rw [hw2]; exact (Only.refl w1).drew
  clear hw2
  have P2 := P1.same (hO2.at_ p)
  have R2 := R1.same (hO2.at_ bb)
  have U2 := K.same U1 fun k _ => hO2.at_ k
  have C2 := C1.trans (hO2.chg _)
  have c0 := P2.c0
  have c2 := P2.c2
  have c5 := P2.c5
  have cb := R2.cell (i := r) (by omega)
  have fb := R2.free (i := r) (by omega)
  have hwr := u8wrap c
  have K2 := Lib.hid (And.intro P2 (And.intro R2 (And.intro U2 (And.intro C2 hLB))))
  clear P1 N1 C1 R1 U1 hO2 P2 R2 U2 C2 hL hLB h hn1
  simp only [List.take_succ_cons, List.take_zero, List.drop_succ_cons, List.drop_zero]
  repeat still_step
  refine wpStill_nil ?_
  obtain ⟨P2, R2, U2, C2, hLB⟩ := K2.out
  obtain ⟨h, hn1⟩ := H.out
  have P3 := P2.same (Below.heap_setCell w2 ⟨bb, r, none⟩ (.int .u8 c.toNat) p h.lay.nb)
  have d5 := P3.c5
  have g5 := P3.f 5
  have d6 := P3.c6
  have g6 := P3.f 6
  have K3 := Lib.hid P3
  clear P2 R2 U2 C2 hLB h hn1 P3
  go_wp2
  go_ret
  obtain ⟨P2, R2, U2, C2, hLB⟩ := K2.out
  obtain ⟨h, hn1⟩ := H.out
  have hP := (K3.out.set5 (-1)).set6 (-1)
  have N3 : ∀ k, k ≠ p → (((w2.setCell ⟨bb, r, none⟩ (.int .u8 c.toNat)).setCell ⟨p, 5, none⟩ (.int .i64 (-1))).setCell ⟨p, 6, none⟩ (.int .i64 (-1))).heap[k]? = (w2.setCell ⟨bb, r, none⟩ (.int .u8 c.toNat)).heap[k]? := fun k hk => (Below.heap_setCell _ _ _ _ hk).trans (Below.heap_setCell _ _ _ _ hk)
  have C3 : Chg (Rd.S K p bb) w (((w2.setCell ⟨bb, r, none⟩ (.int .u8 c.toNat)).setCell ⟨p, 5, none⟩ (.int .i64 (-1))).setCell ⟨p, 6, none⟩ (.int .i64 (-1))) :=
    ((C2.setCell (p := ⟨bb, r, none⟩) (fun _ => .inr (.inl rfl)) _).setCell (p := ⟨p, 5, none⟩) (fun _ => .inl rfl) _).setCell (p := ⟨p, 6, none⟩) (fun _ => .inl rfl) _
  have hll := R2.len
  have hr4 : r < L.length := by omega
  have R3 := R2.set (i := r) (by omega) c
  refine ⟨rfl, h.new C3 ?_ ⟨L.set r c, R3.same (N3 bb h.lay.nb.symm), ?_⟩ ?_ (K.same U2 fun k hk => (N3 k (fun e => h.lay.np (e ▸ hk))).trans (Below.heap_setCell _ _ _ _ (fun e => h.lay.nbb (by have e' : k = bb := e; rw [← e']; exact hk)))) (fun e => ⟨(h.end_ e).1, by have := (h.end_ e).2; rw [List.length_cons]; omega⟩), C3⟩
  · rw [show ((r + (c :: B).length : Nat) : Int) = ((r + 1 + B.length : Nat) : Int) by rw [List.length_cons]; omega]
    exact hP
  · rw [List.drop_set, if_neg (Nat.lt_irrefl r), Nat.sub_self, List.drop_eq_getElem_cons hr4]
    show c :: List.take B.length (L.drop (r + 1)) = c :: B
    rw [hLB]
  · have := h.le
    rw [List.length_cons]
    omega
end Go.Proofs.YtilhgjcjofobeaaDoor
namespace Go.Proofs.YtilhgjcjofobeaaDoor
open Go.RowKit

/-- A space or a tab. -/
def blank (c : UInt8) : Bool := c == 32 || c == 9
theorem blank_iff {c : UInt8} : blank c = true ↔ c = 32 ∨ c = 9 := by simp [blank]
theorem Tp.turn {K : Und} {base t p bb : Nat} {E : Nat → Addr} {gs : List Nat} {buf : Value} {w w' : World} {S S' : List UInt8} (h : Tp K base E gs t p bb buf w S) (hC : Chg (Rd.S K p bb) w w') (hR : Rs K base E gs p bb w' S') : Tp K base E gs t p bb buf w' S' :=
  ⟨h.1, h.2.1, h.2.2.1.same (hC.block t h.2.2.1.lt h.2.1), hR⟩
/-- The loop's relation. -/
def SkRel (K : Und) (base : Nat) (E : Nat → Addr) (gs : List Nat) (t p bb : Nat) (buf : Value) (S : List UInt8) (w : World) (gk : Nat) (u3 : Value) (wr : World) : Prop :=
  ∃ (pre S1 : List UInt8), u3 = .int .i64 pre.length ∧ S = pre ++ S1 ∧ (∀ c ∈ pre, blank c = true) ∧ Tp K base E gs t p bb buf wr S1 ∧ Chg (Rd.S K p bb) w wr ∧ S1.length < gk
theorem takeWhile_blank {pre S1 : List UInt8} (h : ∀ c ∈ pre, blank c = true) (h1 : ∀ c t, S1 = c :: t → blank c = false) : (pre ++ S1).takeWhile blank = pre ∧ (pre ++ S1).dropWhile blank = S1 := by
  induction pre with
  | nil =>
    cases S1 with
    | nil => exact ⟨rfl, rfl⟩
    | cons c t => simp [h1 c t rfl]
  | cons a l ih =>
    have ha := h a (List.mem_cons_self ..)
    obtain ⟨i1, i2⟩ := ih (fun c hc => h c (List.mem_cons_of_mem _ hc))
    simp [ha, i1, i2]
set_option maxRecDepth 200000 in
set_option maxHeartbeats 4000000 in
theorem skipSpace_any {K : Und} (hK : FillOK K) {base t p bb : Nat} {E : Nat → Addr} {gs : List Nat} {buf : Value} {w : World} {S : List UInt8} (h : Tp K base E gs t p bb buf w S) (hg : 0 ∈ gs) (hS : S.length ≤ 140737488355328) :
    Calls Tryd.prog 73 #[.pointer (some ⟨t, 0, none⟩)] w fun e w' => e = .returned (.int .i64 (S.takeWhile blank).length) ∧ Tp K base E gs t p bb buf w' (S.dropWhile blank) ∧ Chg (Rd.S K p bb) w w' := by
  have H := Lib.hid h
  clear h
  go_enter Tryd.func73, Tryd.ntmps73
  go_wp2
  go_loopg [3, 4, 5] (S.length + 1) (fun gk u3 _ _ wr => SkRel K base E gs t p bb buf S w gk u3 wr)
  case atStart => exact ⟨[], S, rfl, rfl, (fun _ h => by cases h), H.out, Chg.refl _ _, Nat.lt_succ_self _⟩
  case round =>
    obtain ⟨pre, S1, rfl, hSe, hpre, hT, hC, hgk⟩ := hrel
    have t0 : wr.cell? ⟨t, 0, none⟩ = some (.pointer (some ⟨p, 0, none⟩)) := hT.2.2.1.c0
    have hrb := readByte_any hK hT.2.2.2 hg
    have hpl : pre.length ≤ 140737488355328 := by rw [hSe, List.length_append] at hS; omega
    have HD := Lib.hid hrb
    have HK := Lib.hid (And.intro hSe (And.intro hpre (And.intro hT (And.intro hC hgk))))
    clear hrb hSe hpre hT hC hgk
    go_wp2_with (go_at_call 89; refine HD.out.mono ?_; rintro e w2 (⟨cc, S2, B2, U2, r2, z2, hS1, rfl, hR2, hBU, hC2⟩ | ⟨hS1, rfl, hR2, hC2⟩) <;> refine Hid.out ?_)
    · have t1 : w2.cell? ⟨t, 0, none⟩ = some (.pointer (some ⟨p, 0, none⟩)) := (World.cell?_of_block (w := wr) (a := ⟨t, 0, none⟩) (hC2.block t HK.out.2.2.1.2.2.1.lt HK.out.2.2.1.2.1)).trans t0
      have HS := Lib.hid (And.intro hS1 (And.intro hR2 (And.intro hBU hC2)))
      clear hS1 hR2 hBU hC2
      refine Lib.hid ?_
      by_cases hb : cc = 32 ∨ cc = 9
      · have hfin : SkRel K base E gs t p bb buf S w (S2.length + 1) (.int .i64 ((pre.length : Int) + 1)) w2 := by
          obtain ⟨hS1, hR2, hBU, hC2⟩ := HS.out
          obtain ⟨hSe, hpre, hT, hC, hgk⟩ := HK.out
          refine ⟨pre ++ [cc], S2, by rw [List.length_append]; rfl, by rw [hSe, hS1]; simp, fun c hc => ?_, hT.turn hC2 ⟨B2, U2, _, z2, _, _, hR2, hBU⟩, hC.trans hC2, Nat.lt_succ_self _⟩
          rcases List.mem_append.1 hc with h | h
          · exact hpre c h
          · rw [List.mem_singleton] at h; subst h; exact blank_iff.2 hb
        have HF := Lib.hid hfin
        have hms : S2.length + 1 < gk := by
          have := HK.out.2.2.2.2
          rw [HS.out.1, List.length_cons] at this
          exact this
        clear hfin
        rcases hb with rfl | rfl
        all_goals
          go_wp2
          go_roundg (S2.length + 1)
          case measure => omega
          case rel => exact HF.out
      · have n32 : ((cc.toNat : Int) == 32) = false := by rw [beq_eq_false_iff_ne]; exact fun e => hb (.inl ((byte_eq_iff cc 32).1 e))
        have n9 : ((cc.toNat : Int) == 9) = false := by rw [beq_eq_false_iff_ne]; exact fun e => hb (.inr ((byte_eq_iff cc 9).1 e))
        have m32 : ((cc.toNat : Int) != 32) = true := by simp [bne, n32]
        have m9 : ((cc.toNat : Int) != 9) = true := by simp [bne, n9]
        have k32 : ¬ (cc.toNat : Int) = 32 := fun e => by rw [e] at n32; cases n32
        have k9 : ¬ (cc.toNat : Int) = 9 := fun e => by rw [e] at n9; cases n9
        have hbf : blank cc = false := by rw [Bool.eq_false_iff]; exact fun e => hb (blank_iff.1 e)
        have HB := Lib.hid hbf
        clear hb hbf
        go_wp2_with (go_at_call 90; refine (unreadByte_any HS.out.2.1).mono ?_; rintro e w3 ⟨rfl, hR3, hC3⟩; have H3 := Lib.hid (And.intro hR3 hC3); clear hR3 hC3)
        go_ret
        obtain ⟨hS1, hR2, hBU, hC2⟩ := HS.out
        obtain ⟨hSe, hpre, hT, hC, hgk⟩ := HK.out
        obtain ⟨hR3, hC3⟩ := H3.out
        obtain ⟨e1, e2⟩ := takeWhile_blank hpre (S1 := S1) (fun c u hcu => by rw [hS1] at hcu; injection hcu with h1 _; subst h1; exact HB.out)
        rw [hSe, e1, e2]
        refine ⟨rfl, hT.turn (hC2.trans hC3) ⟨cc :: B2, U2, r2, z2, _, _, hR3, ?_⟩, hC.trans (hC2.trans hC3)⟩
        rw [hS1, List.cons_append, hBU]
    · have HS := Lib.hid (And.intro hS1 (And.intro hR2 hC2))
      clear hS1 hR2 hC2
      refine Lib.hid ?_
      simp only [Er.val]
      go_wp2
      go_ret
      obtain ⟨hS1, hR2, hC2⟩ := HS.out
      obtain ⟨hSe, hpre, hT, hC, hgk⟩ := HK.out
      obtain ⟨e1, e2⟩ := takeWhile_blank hpre (S1 := S1) (fun c u hcu => by rw [hS1] at hcu; cases hcu)
      rw [hSe, e1, e2, hS1]
      exact ⟨rfl, hT.turn hC2 hR2, hC.trans hC2⟩
end Go.Proofs.YtilhgjcjofobeaaDoor
namespace Go.Proofs.YtilhgjcjofobeaaDoor
open Go.RowKit

/-- Without spaces and tabs at both ends. -/
def trimB (l : List UInt8) : List UInt8 := (((l.dropWhile blank).reverse).dropWhile blank).reverse
theorem trimB_eq {l : List UInt8} {i j : Nat} (hi : ∀ c ∈ l.take i, blank c = true) (h1 : ∀ c, l[i]? = some c → blank c = false) (hj : ∀ c ∈ (l.drop i).drop j, blank c = true) (hjl : j ≤ (l.drop i).length) (h2 : ∀ c, 0 < j → (l.drop i)[j - 1]? = some c → blank c = false) : trimB l = (l.drop i).take j := by
  have e1 : l.dropWhile blank = l.drop i := by
    have := (takeWhile_blank (pre := l.take i) (S1 := l.drop i) hi (fun c t h => h1 c (by
      have h3 : (l.drop i)[0]? = some c := by rw [h]; rfl
      rw [List.getElem?_drop] at h3
      simpa using h3))).2
    rwa [List.take_append_drop] at this
  unfold trimB
  rw [e1]
  have e2 : (l.drop i).reverse = ((l.drop i).drop j).reverse ++ ((l.drop i).take j).reverse := by rw [← List.reverse_append, List.take_append_drop]
  have e3 := (takeWhile_blank (pre := ((l.drop i).drop j).reverse) (S1 := ((l.drop i).take j).reverse) (fun c hc => hj c (List.mem_reverse.1 hc)) (fun c t h => by
    have h3 : ((l.drop i).take j).getLast? = some c := by
      rw [← List.head?_reverse, h]; rfl
    have hlen : ((l.drop i).take j).length = j := by rw [List.length_take]; omega
    have hj0 : 0 < j := by
      rcases Nat.eq_zero_or_pos j with h0 | h0
      · subst h0; simp at h3
      · exact h0
    rw [List.getLast?_eq_getElem?, hlen, List.getElem?_take, if_pos (by omega)] at h3
    exact h2 c hj0 h3)).2
  rw [e2, e3, List.reverse_reverse]
/-- What trim returns. -/
def TrimEnd (w : World) (A : Option Addr) (l : List UInt8) (e : Ending) : Prop :=
  ∃ (A' : Option Addr) (c' : Nat), e = .returned (.slice A' (trimB l).length c') ∧ (trimB l).length ≤ c' ∧ c' ≤ 9223372036854775807 ∧ RB w A' (trimB l) ∧ (∀ a, A' = some a → a.spot = none ∧ ∃ o0, A = some ⟨a.block, o0, none⟩ ∧ o0 ≤ a.off ∧ a.off + (trimB l).length ≤ o0 + l.length)
set_option maxRecDepth 200000 in
set_option maxHeartbeats 4000000 in
theorem trim_any {w : World} {g o c : Nat} {l : List UInt8} (hlc : l.length ≤ c) (hc : c ≤ 9223372036854775807) (hx : ∀ i u, l[i]? = some u → w.cell? ⟨g, o + i, none⟩ = some (.int .u8 u.toNat)) :
    Calls Tryd.prog 72 #[.slice (some ⟨g, o, none⟩) l.length c] w fun e w' => TrimEnd w (some ⟨g, o, none⟩) l e ∧ w = w' := by
  have HX := Lib.hid hx
  clear hx
  go_enter Tryd.func72, Tryd.ntmps72
  go_wp2
  go_loopg [3] l.length (fun gk u3 wr => ∃ i : Nat, i + gk = l.length ∧ u3 = .int .i64 i ∧ Hid (∀ c ∈ l.take i, blank c = true) ∧ wr = w)
  case atStart => exact ⟨0, by omega, rfl, Lib.hid (fun _ h => by simp at h), rfl⟩
  case round =>
    obtain ⟨i, hi, rfl, hall, rfl⟩ := hrel
    by_cases hbl : ∃ b, l[i]? = some b ∧ blank b = true
    · obtain ⟨b, hb, hbb⟩ := hbl
      have hlt : i < l.length := by
        rcases Nat.lt_or_ge i l.length with h' | h'
        · exact h'
        · rw [List.getElem?_eq_none h'] at hb; cases hb
      have hcell := HX.out i b hb
      have hnx : ∀ c ∈ l.take (i + 1), blank c = true := fun c hc => by
        rw [List.take_add_one, hb] at hc
        rcases List.mem_append.1 hc with h | h
        · exact hall.out c h
        · simp at h; subst h; exact hbb
      have HN := Lib.hid hnx
      clear hnx hb
      rcases blank_iff.1 hbb with rfl | rfl
      all_goals
        clear hbb
        go_wp2
        go_roundg (gk - 1)
        case measure => omega
        case rel => exact ⟨i + 1, by omega, by go_num, HN, rfl⟩
    · have hstop : ∀ b, l[i]? = some b → blank b = false := fun b hb => by
        rw [Bool.eq_false_iff]
        exact fun e => hbl ⟨b, hb, e⟩
      have HS := Lib.hid hstop
      have hil : i ≤ l.length := by omega
      obtain ⟨m, hm⟩ : ∃ m, m = l.length - i := ⟨_, rfl⟩
      have hdl : (l.drop i).length = m := by rw [List.length_drop, hm]
      obtain ⟨A2, hA2⟩ : ∃ A2 : Addr, A2 = (if c = i then ⟨g, o, none⟩ else ⟨g, o + i, none⟩) := ⟨_, rfl⟩
      have hx2 : m ≠ 0 → A2 = ⟨g, o + i, none⟩ := fun h0 => by rw [hA2, if_neg (by omega)]
      have hfin : ∀ gk2, gk2 ≤ m → (∀ c ∈ (l.drop i).drop gk2, blank c = true) → (∀ c, 0 < gk2 → (l.drop i)[gk2 - 1]? = some c → blank c = false) → TrimEnd wr (some ⟨g, o, none⟩) l (.returned (.slice (some A2) gk2 (c - i))) := fun gk2 h1 h2 h3 => by
        have ht := trimB_eq hall.out hstop h2 (by omega) h3
        have htl : (trimB l).length = gk2 := by rw [ht, List.length_take]; omega
        refine ⟨some A2, c - i, by rw [htl], by omega, by omega, fun hne => ?_, fun a' e => ?_⟩
        · have hm0 : m ≠ 0 := by
            rintro rfl
            apply hne
            rw [ht, show gk2 = 0 by omega]
            rfl
          refine ⟨g, o + i, by rw [hx2 hm0], fun j u hu => ?_⟩
          rw [ht, List.getElem?_take] at hu
          split at hu
          · rw [List.getElem?_drop] at hu
            have := HX.out (i + j) u hu
            rw [← Nat.add_assoc] at this
            exact this
          · cases hu
        · rw [hA2] at e
          split at e
          · injection e with e; subst e; exact ⟨rfl, o, rfl, Nat.le_refl _, by rw [htl]; show o + gk2 ≤ o + l.length; omega⟩
          · injection e with e; subst e; exact ⟨rfl, o, rfl, by show o ≤ o + i; omega, by rw [htl]; show o + i + gk2 ≤ o + l.length; omega⟩
      subst hm
      have HF := Lib.hid hfin
      have HA2 := Lib.hid hA2
      clear hfin hA2 hx2 hstop hdl
      by_cases hci : c = i
      · have hil2 : i = l.length := by omega
        subst hil2
        subst hci
        have hres := HF.out 0 (Nat.zero_le _) (fun c hc => by simp at hc) (fun c h0 => by omega)
        rw [HA2.out, if_pos rfl, Nat.sub_self] at hres
        have HE := Lib.hid hres
        clear hres hbl
        go_wp2
        go_loopg [4] 0 (fun gk u4 w2 => gk = 0 ∧ u4 = .int .i64 (-1) ∧ w2 = wr)
        case atStart => exact ⟨rfl, rfl, rfl⟩
        case round =>
          obtain ⟨rfl, rfl, rfl⟩ := hrel
          go_wp2
          go_ret
          exact ⟨HE.out, rfl⟩
      · have hic : (i : Int) ≤ (c : Int) := by omega
        have hall1 := hall
        by_cases hil2 : i = l.length
        · subst hil2
          have hres := HF.out 0 (Nat.zero_le _) (fun c hc => by simp at hc) (fun c h0 => by omega)
          rw [HA2.out, if_neg hci] at hres
          have HE := Lib.hid hres
          have hz : l.length - l.length = 0 := Nat.sub_self _
          clear hres hbl
          go_wp2
          go_loopg [4] 0 (fun gk u4 w2 => gk = 0 ∧ u4 = .int .i64 (-1) ∧ w2 = wr)
          case atStart => exact ⟨rfl, rfl, rfl⟩
          case round =>
            obtain ⟨rfl, rfl, rfl⟩ := hrel
            go_wp2
            go_ret
            exact ⟨HE.out, rfl⟩
        · obtain ⟨b0, hb0⟩ : ∃ b, l[i]? = some b := ⟨_, List.getElem?_eq_getElem (by omega)⟩
          have hbf := HS.out b0 hb0
          have hcell0 := HX.out i b0 hb0
          have hno : ¬ (b0 = 32 ∨ b0 = 9) := fun e => by rw [blank_iff.2 e] at hbf; cases hbf
          have n32 : ((b0.toNat : Int) == 32) = false := by rw [beq_eq_false_iff_ne]; exact fun e => hno (.inl ((byte_eq_iff b0 32).1 e))
          have n9 : ((b0.toNat : Int) == 9) = false := by rw [beq_eq_false_iff_ne]; exact fun e => hno (.inr ((byte_eq_iff b0 9).1 e))
          have hlt : i < l.length := by omega
          clear hb0 hbf hno hbl
          go_wp2
          go_loopg [4] (l.length - i) (fun gk u4 w2 => gk ≤ l.length - i ∧ u4 = .int .i64 ((gk : Int) - 1) ∧ Hid (∀ c ∈ (l.drop i).drop gk, blank c = true) ∧ w2 = wr)
          case atStart => exact ⟨Nat.le_refl _, rfl, Lib.hid (fun _ h => by rw [List.drop_eq_nil_of_le (by rw [List.length_drop]; exact Nat.le_refl _)] at h; cases h), rfl⟩
          case round =>
            obtain ⟨hg1, rfl, hall2, rfl⟩ := hrel
            by_cases hb2 : ∃ j b, gk = j + 1 ∧ (l.drop i)[j]? = some b ∧ blank b = true
            · obtain ⟨j, b, rfl, hb, hbb⟩ := hb2
              have hb' : l[i + j]? = some b := by rw [List.getElem?_drop] at hb; exact hb
              have hcell := HX.out (i + j) b hb'
              rw [← Nat.add_assoc] at hcell
              have hnx : ∀ c ∈ (l.drop i).drop j, blank c = true := fun c hc => by
                rw [List.drop_eq_getElem?_toList_append, hb] at hc
                rcases List.mem_append.1 hc with h | h
                · simp at h; subst h; exact hbb
                · exact hall2.out c h
              have HN := Lib.hid hnx
              have hji : ((j + 1 : Nat) : Int) - 1 = (j : Int) := by omega
              have hjl : j < l.length - i := by omega
              clear hnx hb hb'
              rcases blank_iff.1 hbb with rfl | rfl
              all_goals
                clear hbb
                go_wp2
                go_roundg j
                case measure => omega
                case rel => exact ⟨by omega, rfl, HN, rfl⟩
            · have hst2 : ∀ c, 0 < gk → (l.drop i)[gk - 1]? = some c → blank c = false := fun c h0 hc => by
                rw [Bool.eq_false_iff]
                exact fun e => hb2 ⟨gk - 1, c, by omega, hc, e⟩
              have hres := HF.out gk hg1 hall2.out hst2
              rw [HA2.out, if_neg hci] at hres
              have HE := Lib.hid hres
              have hgc : (gk : Int) ≤ (c - i : Nat) := by omega
              have hgn : gk ≤ c - i := by omega
              by_cases h0 : gk = 0
              · subst h0
                clear hres hst2 hb2
                go_wp2
                go_ret
                exact ⟨HE.out, rfl⟩
              · obtain ⟨j, rfl⟩ : ∃ j, gk = j + 1 := ⟨gk - 1, by omega⟩
                obtain ⟨b, hb⟩ : ∃ b, l[i + j]? = some b := ⟨_, List.getElem?_eq_getElem (by omega)⟩
                have hcell := HX.out (i + j) b hb
                rw [← Nat.add_assoc] at hcell
                have hbf := hst2 b (by omega) (by rw [List.getElem?_drop]; exact hb)
                have hno : ¬ (b = 32 ∨ b = 9) := fun e => by rw [blank_iff.2 e] at hbf; cases hbf
                have m32 : ((b.toNat : Int) == 32) = false := by rw [beq_eq_false_iff_ne]; exact fun e => hno (.inl ((byte_eq_iff b 32).1 e))
                have m9 : ((b.toNat : Int) == 9) = false := by rw [beq_eq_false_iff_ne]; exact fun e => hno (.inr ((byte_eq_iff b 9).1 e))
                have hji : ((j + 1 : Nat) : Int) - 1 = (j : Int) := by omega
                have hjl : j < l.length - i := by omega
                clear hres hst2 hb2 hb hbf hno h0
                go_wp2
                go_ret
                exact ⟨HE.out, rfl⟩
/-- .. of nil. -/
theorem trim_nil (w : World) : Calls Tryd.prog 72 #[.slice none 0 0] w fun e w' => TrimEnd w none [] e ∧ w = w' := by
  go_enter Tryd.func72, Tryd.ntmps72
  go_wp2
  go_loopg [3] 0 (fun gk u3 wr => gk = 0 ∧ u3 = .int .i64 0 ∧ wr = w)
  case atStart => exact ⟨rfl, rfl, rfl⟩
  case round =>
    obtain ⟨rfl, rfl, rfl⟩ := hrel
    go_wp2
    go_loopg [4] 0 (fun gk u4 w2 => gk = 0 ∧ u4 = .int .i64 (-1) ∧ w2 = wr)
    case atStart => exact ⟨rfl, rfl, rfl⟩
    case round =>
      obtain ⟨rfl, rfl, rfl⟩ := hrel
      go_wp2
      go_ret
      exact ⟨⟨none, 0, rfl, Nat.le_refl _, by decide, RB.nil _ _, fun _ e => by cases e⟩, rfl⟩
/-- .. of a slice that reads as l. -/
theorem trim_all {w : World} {A : Option Addr} {c : Nat} {l : List UInt8} (hlc : l.length ≤ c) (hc : c ≤ 9223372036854775807) (hr : RB w A l) (h0 : A = none → c = 0) (hs : ∀ a, A = some a → a.spot = none) :
    Calls Tryd.prog 72 #[.slice A l.length c] w fun e w' => TrimEnd w A l e ∧ w = w' := by
  rcases A with _ | ⟨g, o, sp⟩
  · have hl : l = [] := by
      rcases l with _ | ⟨b, u⟩
      · rfl
      · obtain ⟨_, _, e, _⟩ := hr (by simp); cases e
    subst hl
    obtain rfl := h0 rfl
    exact trim_nil w
  · obtain rfl := hs _ rfl
    refine trim_any hlc hc (fun i u hu => ?_)
    obtain ⟨g', o', e, hx⟩ := hr (by rintro rfl; simp at hu)
    injection e with e; injection e with e1 e2; subst e1; subst e2
    exact hx i u hu
end Go.Proofs.YtilhgjcjofobeaaDoor
namespace Go.Proofs.YtilhgjcjofobeaaDoor
open Go.RowKit

/-- The lines that go on: S is left, acc has been gathered. -/
inductive CLoop : List UInt8 → List UInt8 → List UInt8 → Er → List UInt8 → Prop
  | stop {S acc : List UInt8} : S.takeWhile blank = [] → CLoop S acc acc .nil S
  | cut {S acc l R : List UInt8} {er : Er} : S.takeWhile blank ≠ [] → TSays (S.dropWhile blank) l er R → er ≠ .nil → CLoop S acc [] er R
  | go {S acc l R line R' : List UInt8} {er : Er} : S.takeWhile blank ≠ [] → TSays (S.dropWhile blank) l .nil R → CLoop R (acc ++ 32 :: trimB l) line er R' → CLoop S acc line er R'
/-- What readContinuedLineSlice says, where vE is what it makes of the first line. -/
inductive CSays (vE : List UInt8 → Er) : List UInt8 → List UInt8 → Er → List UInt8 → Prop
  | err {S l R : List UInt8} {er : Er} : TSays S l er R → er ≠ .nil → CSays vE S [] er R
  | blank {S R : List UInt8} : TSays S [] .nil R → CSays vE S [] .nil R
  | bad {S l R : List UInt8} : TSays S l .nil R → l ≠ [] → vE l ≠ .nil → CSays vE S [] (vE l) R
  | line {S l R line R' : List UInt8} {er : Er} : TSays S l .nil R → l ≠ [] → vE l = .nil → CLoop R (trimB l) line er R' → CSays vE S line er R'
/-- Every first line will do. -/
def noV : List UInt8 → Er := fun _ => .nil
/-- Printable, with no space at either end. -/
structure BareP (p : List UInt8) : Prop where
  print : ∀ c ∈ p, c ≠ 9 ∧ c ≠ 10 ∧ c ≠ 13
  head : ∀ c t, p = c :: t → c ≠ 32
  last : ∀ c t, p = t ++ [c] → c ≠ 32
/-- The end of a line. -/
def eol (feed : Bool) : List UInt8 := if feed then [10] else [13, 10]
theorem BareP.no10 {p : List UInt8} (h : BareP p) : 10 ∉ p := fun hm => (h.print 10 hm).2.1 rfl
/-- Neither CR nor LF. -/
def Flat (p : List UInt8) : Prop := ∀ c ∈ p, c ≠ 10 ∧ c ≠ 13
theorem BareP.flat {p : List UInt8} (h : BareP p) : Flat p := fun c hc => (h.print c hc).2
theorem Flat.no10 {p : List UInt8} (h : Flat p) : 10 ∉ p := fun hm => (h 10 hm).1 rfl
theorem dropCR_not {p : List UInt8} (h : Flat p) : dropCR p = p := by
  rcases List.eq_nil_or_concat p with rfl | ⟨t, c, rfl⟩
  · rfl
  · rw [List.concat_eq_append] at h ⊢
    have h13 : c ≠ 13 := (h c (by simp)).2
    unfold dropCR
    rw [if_neg (by simpa using h13)]
/-- A line with one of the two ends. -/
theorem TSays.eol {p X l R : List UInt8} {feed : Bool} {er : Er} (h : Flat p) (hs : TSays (p ++ (Go.Proofs.YtilhgjcjofobeaaDoor.eol feed ++ X)) l er R) : er = .nil ∧ l = p ∧ R = X := by
  cases feed with
  | true =>
    have hS : p ++ (Go.Proofs.YtilhgjcjofobeaaDoor.eol true ++ X) = p ++ 10 :: X := rfl
    obtain ⟨h1, h2, h3⟩ := hs.line hS h.no10
    exact ⟨h1, by rw [h2, dropCR_not h], h3⟩
  | false =>
    have hS : p ++ (Go.Proofs.YtilhgjcjofobeaaDoor.eol false ++ X) = (p ++ [13]) ++ 10 :: X := by simp [Go.Proofs.YtilhgjcjofobeaaDoor.eol]
    have ha : (10 : UInt8) ∉ p ++ [13] := by
      rw [List.mem_append, not_or]
      exact ⟨h.no10, by decide⟩
    obtain ⟨h1, h2, h3⟩ := hs.line hS ha
    exact ⟨h1, by rw [h2, dropCR_cr], h3⟩
theorem BareP.head_blank {p : List UInt8} (h : BareP p) {c : UInt8} {t : List UInt8} (hp : p = c :: t) : Go.Proofs.YtilhgjcjofobeaaDoor.blank c = false := by
  rw [Bool.eq_false_iff]
  intro e
  rcases blank_iff.1 e with rfl | rfl
  · exact h.head _ t hp rfl
  · exact (h.print 9 (by rw [hp]; exact List.mem_cons_self ..)).1 rfl
theorem BareP.last_blank {p : List UInt8} (h : BareP p) {c : UInt8} {t : List UInt8} (hp : p = t ++ [c]) : Go.Proofs.YtilhgjcjofobeaaDoor.blank c = false := by
  rw [Bool.eq_false_iff]
  intro e
  rcases blank_iff.1 e with rfl | rfl
  · exact h.last _ t hp rfl
  · exact (h.print 9 (by rw [hp]; simp)).1 rfl
theorem trimB_bare {p : List UInt8} (h : BareP p) : trimB p = p := by
  have := trimB_eq (l := p) (i := 0) (j := p.length) (fun c hc => by simp at hc) (fun c hc => by
    cases p with
    | nil => simp at hc
    | cons a t => simp at hc; subst hc; exact h.head_blank rfl) (fun c hc => by simp at hc) (by simp) (fun c h0 hc => by
    rcases List.eq_nil_or_concat p with hp | ⟨t, a, hp⟩
    · rw [hp] at h0; simp at h0
    · rw [List.concat_eq_append] at hp
      rw [hp] at hc
      simp at hc
      subst hc
      exact h.last_blank hp)
  rw [this]
  simp
/-- The pieces behind the first one, each in a line of its own behind blanks. -/
def moreText (bl : List UInt8) (feed : Bool) (ps : List (List UInt8)) : List UInt8 := ps.flatMap fun p => bl ++ (p ++ eol feed)
/-- What they add. -/
def moreSays (ps : List (List UInt8)) : List UInt8 := ps.flatMap fun p => 32 :: p
theorem CLoop.more {bl : List UInt8} {feed : Bool} {ps : List (List UInt8)} {X acc line R : List UInt8} {er : Er} (hb : ∀ c ∈ bl, blank c = true) (hbl : ps ≠ [] → bl ≠ []) (hp : ∀ p ∈ ps, BareP p ∧ p ≠ []) (hX : ∀ c t, X = c :: t → blank c = false) (h : CLoop (moreText bl feed ps ++ X) acc line er R) : line = acc ++ moreSays ps ∧ er = .nil ∧ R = X := by
  induction ps generalizing acc with
  | nil =>
    have e := takeWhile_blank (pre := []) (S1 := X) (fun _ h => by cases h) hX
    have hS : moreText bl feed [] ++ X = X := rfl
    rw [hS] at h
    cases h with
    | stop _ => exact ⟨by simp [moreSays], rfl, rfl⟩
    | cut h1 _ _ => exact absurd e.1 h1
    | go h1 _ _ => exact absurd e.1 h1
  | cons p ps ih =>
    have hpp := hp p (List.mem_cons_self ..)
    have hS : moreText bl feed (p :: ps) ++ X = bl ++ (p ++ (eol feed ++ (moreText bl feed ps ++ X))) := by simp [moreText]
    have e := takeWhile_blank (pre := bl) (S1 := p ++ (eol feed ++ (moreText bl feed ps ++ X))) hb (fun c t hc => by
      cases hpe : p with
      | nil => exact absurd hpe hpp.2
      | cons a u =>
        rw [hpe] at hc
        injection hc with hc _
        subst hc
        exact hpp.1.head_blank hpe)
    rw [hS] at h
    have hne := hbl (by simp)
    cases h with
    | stop h1 => rw [e.1] at h1; exact absurd h1 hne
    | cut h1 h2 h3 =>
      rw [e.2] at h2
      exact absurd (h2.eol hpp.1.flat).1 h3
    | go h1 h2 h3 =>
      rw [e.2] at h2
      obtain ⟨_, rfl, rfl⟩ := h2.eol hpp.1.flat
      rw [trimB_bare hpp.1] at h3
      obtain ⟨i1, i2⟩ := ih (fun _ => hne) (fun q hq => hp q (List.mem_cons_of_mem _ hq)) h3
      exact ⟨by rw [i1]; simp [moreSays], i2⟩
/-- A line and the lines behind it that go on. -/
theorem CSays.more {vE : List UInt8 → Er} {p : List UInt8} {ps : List (List UInt8)} {bl X line R : List UInt8} {feed : Bool} {er : Er} (hf : Flat p) (hv : p ≠ [] → vE p = .nil) (hps : ps ≠ [] → p ≠ []) (hb : ∀ c ∈ bl, Go.Proofs.YtilhgjcjofobeaaDoor.blank c = true) (hbl : ps ≠ [] → bl ≠ []) (hp : ∀ q ∈ ps, BareP q ∧ q ≠ [])
    (hX : ∀ c t, X = c :: t → Go.Proofs.YtilhgjcjofobeaaDoor.blank c = false) (hs : CSays vE (p ++ (eol feed ++ (moreText bl feed ps ++ X))) line er R) : er = .nil ∧ line = trimB p ++ moreSays ps ∧ R = X := by
  cases hs with
  | err h1 h2 => exact absurd (h1.eol hf).1 h2
  | blank h1 =>
    obtain ⟨_, h2, h3⟩ := h1.eol hf
    by_cases he : ps = []
    · subst he
      exact ⟨rfl, by rw [← h2]; rfl, h3⟩
    · exact absurd h2.symm (hps he)
  | bad h1 h2 h3 =>
    obtain ⟨_, h4, _⟩ := h1.eol hf
    exact absurd (h4 ▸ hv (h4 ▸ h2)) h3
  | line h1 h2 _ h3 =>
    obtain ⟨_, rfl, rfl⟩ := h1.eol hf
    obtain ⟨i1, i2, i3⟩ := h3.more hb hbl hp hX
    exact ⟨i2, i1, i3⟩
/-- A long line. -/
structure LongP (p : List UInt8) (ps : List (List UInt8)) (bl : List UInt8) : Prop where
  first : BareP p
  more : ∀ q ∈ ps, BareP q ∧ q ≠ []
  ne : ps ≠ [] → p ≠ [] ∧ bl ≠ []
  blanks : ∀ c ∈ bl, blank c = true
theorem CSays.long {p : List UInt8} {ps : List (List UInt8)} {bl X line R : List UInt8} {feed : Bool} {er : Er} (h : LongP p ps bl) (hX : ∀ c t, X = c :: t → Go.Proofs.YtilhgjcjofobeaaDoor.blank c = false) (hs : CSays noV (p ++ (eol feed ++ (moreText bl feed ps ++ X))) line er R) : er = .nil ∧ line = p ++ moreSays ps ∧ R = X := by
  have := hs.more h.first.flat (fun _ => rfl) (fun e => (h.ne e).1) h.blanks (fun e => (h.ne e).2) h.more hX
  rwa [trimB_bare h.first] at this
end Go.Proofs.YtilhgjcjofobeaaDoor
