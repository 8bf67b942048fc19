/- A bufio.Reader's state as a whole, and the walk of its fill over a bytes.Reader. -/
import Derived.Test.YtfnkkjehkegpgaaDoorRdA
import Derived.Deep.RegionHeld3
namespace Go.Proofs.YtfnkkjehkegpgaaDoor
open Go.RowKit

/-- The error that a bufio.Reader keeps: none, or the end. -/
def eofV (E : Nat → Addr) : Bool → Value
  | true => .iface 118 (.pointer (some (E 0)))
  | false => .nilIface
/-- What stays of a bufio.Reader: its blocks, apart from each other, at or above a base. -/
structure Lay (K : Und) (base p bb : Nat) : Prop where
  nb : p ≠ bb
  np : ¬ K.own p
  nbb : ¬ K.own bb
  bp : base ≤ p
  bb_ : base ≤ bb
  bo : ∀ k, K.own k → base ≤ k
/-- The state: B lies in the buffer from r on, U is left beneath. -/
structure Rd (K : Und) (base : Nat) (E : Nat → Addr) (gs : List Nat) (p bb : Nat) (w : World) (B U : List UInt8) (r : Nat) (z : Bool) (lb lr : Int) : Prop where
  lay : Lay K base p bb
  c : RdC w p bb K.rd r ((r + B.length : Nat) : Int) (eofV E z) lb lr
  row : ∃ L, RowB w bb 4096 L ∧ (L.drop r).take B.length = B
  le : r + B.length ≤ 4096
  u : K.at_ w U
  end_ : z = true → U = [] ∧ r + B.length < 4096
  s : SensB base w E gs
/-- The blocks of a bufio.Reader. -/
def Rd.S (K : Und) (p bb : Nat) (k : Nat) : Prop := k = p ∨ k = bb ∨ K.own k
theorem Lay.below {K : Und} {base p bb : Nat} (h : Lay K base p bb) {w w' : World} (hc : Chg (Rd.S K p bb) w w') (hb : base ≤ w.heap.size) : Below base w w' :=
  hc.below (fun k hk hs => by
    rcases hs with rfl | rfl | hs
    · have := h.bp; omega
    · have := h.bb_; omega
    · have := h.bo k hs; omega) hb

theorem Rd.only {K : Und} {base p bb : Nat} {E : Nat → Addr} {gs : List Nat} {w w' : World} {B U : List UInt8} {r : Nat} {z : Bool} {lb lr : Int} (h : Rd K base E gs p bb w B U r z lb lr) (ho : Only w w') : Rd K base E gs p bb w' B U r z lb lr := by
  obtain ⟨L, hL, hB⟩ := h.row
  exact ⟨h.lay, h.c.same (ho.at_ p), ⟨L, hL.same (ho.at_ bb), hB⟩, h.le, K.same h.u (fun k _ => ho.at_ k), h.end_, ⟨h.s.s.of_blocks fun g _ => ⟨ho.at_ g, ho.at_ _⟩, h.s.lo⟩⟩
theorem Rd.size {K : Und} {base p bb : Nat} {E : Nat → Addr} {gs : List Nat} {w : World} {B U : List UInt8} {r : Nat} {z : Bool} {lb lr : Int} (h : Rd K base E gs p bb w B U r z lb lr) : base ≤ w.heap.size :=
  Nat.le_trans h.lay.bp (Nat.le_of_lt h.c.lt)
/-- A bufio.Reader's state anew, out of a step that has turned nothing but its own blocks. -/
theorem Rd.new {K : Und} {base p bb : Nat} {E : Nat → Addr} {gs : List Nat} {w w' : World} {B U B' U' : List UInt8} {r r' : Nat} {z z' : Bool} {lb lr lb' lr' : Int} (h : Rd K base E gs p bb w B U r z lb lr)
    (hc : Chg (Rd.S K p bb) w w') (c : RdC w' p bb K.rd r' ((r' + B'.length : Nat) : Int) (eofV E z') lb' lr') (row : ∃ L, RowB w' bb 4096 L ∧ (L.drop r').take B'.length = B') (le : r' + B'.length ≤ 4096) (u : K.at_ w' U')
    (end_ : z' = true → U' = [] ∧ r' + B'.length < 4096) : Rd K base E gs p bb w' B' U' r' z' lb' lr' := ⟨h.lay, c, row, le, u, end_, h.s.below (h.lay.below hc h.size)⟩
/-- What fill leaves. -/
def FillEnd (K : Und) (base : Nat) (E : Nat → Addr) (gs : List Nat) (p bb : Nat) (B U : List UInt8) (lb lr : Int) (w : World) (e : Ending) (w' : World) : Prop :=
  e = .returned (.tuple #[]) ∧ (∃ X U', U = X ++ U' ∧ Rd K base E gs p bb w' (B ++ X) U' 0 (X.isEmpty) lb lr ∧ (X = [] → U = [])) ∧ Chg (Rd.S K p bb) w w'
/-- What fill does. -/
def FillOK (K : Und) : Prop := ∀ (base : Nat) (E : Nat → Addr) (gs : List Nat) (p bb : Nat) (w : World) (B U : List UInt8) (r : Nat) (lb lr : Int),
  Rd K base E gs p bb w B U r false lb lr → B.length < 4096 → 0 ∈ gs → Calls Tryd.prog 59 #[.pointer (some ⟨p, 0, none⟩)] w (FillEnd K base E gs p bb B U lb lr w)

set_option maxRecDepth 200000 in
set_option maxHeartbeats 4000000 in
theorem fillB_zero (q sb : Nat) (base : Nat) (E : Nat → Addr) (gs : List Nat) (p bb : Nat) (w : World) (B U : List UInt8) (lb lr : Int) (hqs : sb ≠ q)
  (h : Rd (KB q sb) base E gs p bb w B U 0 false lb lr) (hB : B.length < 4096) (hg : 0 ∈ gs) :
  Calls Tryd.prog 59 #[.pointer (some ⟨p, 0, none⟩)] w (FillEnd (KB q sb) base E gs p bb B U lb lr w) := by
  have c0 := h.c.c0
  have c1 := h.c.c1
  have c2 := h.c.c2
  have c3 := h.c.c3
  simp only [Nat.zero_add] at c3
  have hBi : ¬ 4096 ≤ B.length := by omega
  have H := Lib.hid h
  clear h
  go_enter Tryd.func59, Tryd.ntmps59
  go_wp2
  go_quiet (fail)
  go_wp2
  go_loopw [2] (fun i w1 => i = .int .i64 100 ∧ Only w w1) (fun _ _ => 0)
  case atStart => exact ⟨rfl, (Only.refl w).drewN nq⟩
  case round =>
    obtain ⟨rfl, hO⟩ := hrel
    go_wp2
    have h := H.out.only hO
    clear H c0 c1 c2 c3
    have c0 := h.c.c0
    have c1 : wr.cell? ⟨p, 1, none⟩ = some (.iface 57 (.pointer (some ⟨q, 0, none⟩))) := h.c.c1
    have c3 := h.c.c3
    simp only [Nat.zero_add] at c3
    have hBn : ¬ 4096 = B.length := by omega
    have hB2 : (B.length : Int) ≤ 4096 := by omega
    have hB3 : B.length ≤ 4096 := by omega
    have H := Lib.hid (And.intro h hO)
    clear h hO
    by_cases hU : U = []
    · subst hU
      go_region_held3 (fun w' => w'.cell? ⟨p, 0, none⟩ = some (.slice (some ⟨bb, 0, none⟩) 4096 4096) ∧ w'.cell? ⟨p, 1, none⟩ = some (.iface 57 (.pointer (some ⟨q, 0, none⟩))) ∧ w'.cell? ⟨p, 3, none⟩ = some (.int .i64 B.length))
        (first | go_keep | (refine ⟨?_, ?_, ?_⟩ <;> (rw [World.cell?_of_block (hO3.at_ p)]; assumption)))
        (first | (go_at_call 96; refine (brRead_end (H.out.1.only (Only.refl _).drew).u (H.out.1.only (Only.refl _).drew).s.s hg _).mono ?_; rintro e w3 ⟨rfl, hO3⟩))
      obtain ⟨h, hO⟩ := H.out
      have hO4 : Only wr w3 := (Only.refl wr).drew.trans hO3
      have h3 := h.only hO4
      have hO5 := hO.trans hO4
      have d3 := h3.c.c3
      have f3 := h3.c.f 3
      have d4 := h3.c.c4
      have f4 := h3.c.f 4
      simp only [Nat.zero_add] at d3
      have HH := Lib.hid (And.intro h3 hO5)
      clear H h hO hO3 hO4 h3 hO5 c0 c1 c3
      go_wp2
      ((try simp only [Exit.inBlock, Exit.then]); refine bodyPost_ret (results_none rfl _ _ _) rfl ?_)
      obtain ⟨h3, hO3⟩ := HH.out
      have C3 : Chg (Rd.S (KB q sb) p bb) w3 ((w3.setCell ⟨p, 3, none⟩ (.int .i64 B.length)).setCell ⟨p, 4, none⟩ (eofV E true)) :=
        (((Chg.refl (Rd.S (KB q sb) p bb) w3).setCell (p := ⟨p, 3, none⟩) (fun _ => .inl rfl) _).setCell (p := ⟨p, 4, none⟩) (fun _ => .inl rfl) _)
      have hne : ∀ k, k ≠ p → ((w3.setCell ⟨p, 3, none⟩ (.int .i64 B.length)).setCell ⟨p, 4, none⟩ (eofV E true)).heap[k]? = w3.heap[k]? := fun k hk =>
        (Below.heap_setCell _ _ _ _ hk).trans (Below.heap_setCell _ _ _ _ hk)
      refine ⟨rfl, ⟨[], [], rfl, ?_, fun _ => rfl⟩, (hO3.chg _).trans C3⟩
      rw [List.append_nil]
      obtain ⟨L3, hL3, hB3'⟩ := h3.row
      refine h3.new C3 ?_ ⟨L3, hL3.same (hne bb h3.lay.nb.symm), hB3'⟩ h3.le ((KB q sb).same h3.u fun k hk => hne k (fun e => h3.lay.np (e ▸ hk))) (fun _ => ⟨rfl, by omega⟩)
      have := (h3.c.set3 (B.length : Int)).set4 (eofV E true)
      rw [show ((0 + B.length : Nat) : Int) = (B.length : Int) by omega]
      exact this
    · have hN1 : 0 < 4096 - B.length := by omega
      have hN2 : B.length + (4096 - B.length) ≤ 4096 := by omega
      have hUl : 0 < min U.length (4096 - B.length) := by have := List.length_pos_iff.2 hU; omega
      have hUi : ¬ ((min U.length (4096 - B.length) : Nat) : Int) ≤ 0 := by omega
      obtain ⟨L, hL, hLB⟩ := H.out.1.row
      have HL := Lib.hid (And.intro hL hLB)
      clear hL hLB
      go_region_held3 (fun w' => w'.cell? ⟨p, 0, none⟩ = some (.slice (some ⟨bb, 0, none⟩) 4096 4096) ∧ w'.cell? ⟨p, 1, none⟩ = some (.iface 57 (.pointer (some ⟨q, 0, none⟩))) ∧ w'.cell? ⟨p, 3, none⟩ = some (.int .i64 B.length))
        (first | go_keep | (refine ⟨?_, ?_, ?_⟩ <;> (rw [World.cell?_of_block (hC3.block p H.out.1.c.lt (fun e => by rcases e with e | e; exact H.out.1.lay.np (.inl e); exact H.out.1.lay.nb e))]; assumption)))
        (first | (go_at_call 96; refine (brRead_some (H.out.1.only (Only.refl _).drew).u hU (HL.out.1.same rfl) hN1 hN2 (fun e => H.out.1.lay.nbb (.inl e)) (fun e => H.out.1.lay.nbb (.inr e)) hqs).mono ?_; rintro e w3 ⟨rfl, hbr, hrow3, hC3⟩))
      obtain ⟨h, hO⟩ := H.out
      have hpn : ¬ (p = q ∨ p = bb) := fun e => by rcases e with e | e; exact h.lay.np (.inl e); exact h.lay.nb e
      have cp : RdC w3 p bb (KB q sb).rd (0 : Nat) ((0 + B.length : Nat) : Int) (eofV E false) lb lr := h.c.same (hC3.block p h.c.lt hpn)
      have d3 := cp.c3
      have f3 := cp.f 3
      simp only [Nat.zero_add] at d3
      have C : Chg (Rd.S (KB q sb) p bb) w w3 := (hO.chg _).trans (((Only.refl wr).drew.chg _).trans (hC3.sub (fun k _ hk => by rcases hk with rfl | rfl; exact .inr (.inr (.inl rfl)); exact .inr (.inl rfl))))
      have HH := Lib.hid (And.intro hbr (And.intro hrow3 (And.intro cp (And.intro C (And.intro hO hC3)))))
      clear hbr hrow3 cp hC3 C hO h c0 c1 c3 hpn
      go_wp2
      ((try simp only [Exit.inBlock, Exit.then]); refine bodyPost_ret (results_none rfl _ _ _) rfl ?_)
      obtain ⟨hbr, hrow3, cp, C, hO, hC3⟩ := HH.out
      obtain ⟨h, _⟩ := H.out
      obtain ⟨hL, hLB⟩ := HL.out
      have hXl : (U.take (4096 - B.length)).length = min U.length (4096 - B.length) := by rw [List.length_take, Nat.min_comm]
      have hXe : (U.take (4096 - B.length)).isEmpty = false := by
        rw [List.isEmpty_eq_false_iff]
        intro e
        rw [e] at hXl
        simp only [List.length_nil] at hXl
        omega
      have hne : ∀ k, k ≠ p → (w3.setCell ⟨p, 3, none⟩ (.int .i64 ((B.length : Int) + (min U.length (4096 - B.length) : Nat)))).heap[k]? = w3.heap[k]? := fun k hk => Below.heap_setCell _ _ _ _ hk
      have C4 : Chg (Rd.S (KB q sb) p bb) w (w3.setCell ⟨p, 3, none⟩ (.int .i64 ((B.length : Int) + (min U.length (4096 - B.length) : Nat)))) := C.setCell (p := ⟨p, 3, none⟩) (fun _ => .inl rfl) _
      refine ⟨rfl, ⟨U.take (4096 - B.length), U.drop (4096 - B.length), (List.take_append_drop _ _).symm, ?_, fun e => ?_⟩, C4⟩
      · rw [hXe]
        have hw := H.out.1
        have Cw : Chg (Rd.S (KB q sb) p bb) wr (w3.setCell ⟨p, 3, none⟩ (.int .i64 ((B.length : Int) + (min U.length (4096 - B.length) : Nat)))) :=
          ((((Only.refl wr).drew.chg _).trans (hC3.sub (fun k _ hk => by rcases hk with rfl | rfl; exact .inr (.inr (.inl rfl)); exact .inr (.inl rfl)))).setCell (p := ⟨p, 3, none⟩) (fun _ => .inl rfl) _)
        refine hw.new Cw ?_ ⟨_, hrow3.same (hne bb h.lay.nb.symm), ?_⟩ (by rw [List.length_append, hXl]; omega) ((KB q sb).same hbr fun k hk => hne k (fun e => h.lay.np (e ▸ hk))) (fun e => by cases e)
        · have := cp.set3 ((B.length : Int) + (min U.length (4096 - B.length) : Nat))
          rw [show ((0 + (B ++ U.take (4096 - B.length)).length : Nat) : Int) = (B.length : Int) + (min U.length (4096 - B.length) : Nat) by rw [List.length_append, hXl]; omega]
          exact this
        · have h0 : L.take B.length = B := by simpa using hLB
          unfold splice
          rw [h0, List.drop_zero, List.take_append_of_le_length (Nat.le_refl _), List.take_length]
      · exfalso
        rw [e] at hXe
        cases hXe
end Go.Proofs.YtfnkkjehkegpgaaDoor
