/- The walk of bufio's Peek(2), where two bytes at least lie in the buffer. | The walks of bufio's Peek: of bytes that lie in the buffer; of one byte, where there is one. -/
import Derived.Test.YtilhgjcjofobeaaDoorZC5
import Derived.Deep.LoopGhost
namespace Go.Proofs.YtilhgjcjofobeaaDoor
open Go.RowKit

set_option maxRecDepth 200000 in
set_option maxHeartbeats 4000000 in
theorem peek2_any {K : Und} {base p bb : Nat} {E : Nat → Addr} {gs : List Nat} {w : World} {B U : List UInt8} {r : Nat} {z : Bool} {lb lr : Int} (h : Rd K base E gs p bb w B U r z lb lr) (hB : 2 ≤ B.length) :
    Calls Tryd.prog 45 #[.pointer (some ⟨p, 0, none⟩), .int .i64 2] w fun e w' => e = .returned (.tuple #[.slice (some ⟨bb, r, none⟩) 2 (4096 - r), .nilIface]) ∧ Rd K base E gs p bb w' B U r z (-1) (-1) ∧ Chg (fun k => k = p) w w' := by
  have hle := h.le
  obtain ⟨n1, hn1⟩ : ∃ n1 : Nat, n1 = r + B.length := ⟨_, rfl⟩
  have c5 := h.c.c5
  have f5 := h.c.f 5
  have f6 := h.c.f 6
  have P2 : RdC ((w.setCell ⟨p, 5, none⟩ (.int .i64 (-1))).setCell ⟨p, 6, none⟩ (.int .i64 (-1))) p bb K.rd r (n1 : Int) (eofV E z) (-1) (-1) := by
    have := (h.c.set5 (-1)).set6 (-1)
    rw [hn1]
    exact this
  have c6 := (h.c.set5 (-1)).c6
  have g6 := (h.c.set5 (-1)).f 6
  have hr4 : ¬ 4096 = r := by omega
  have hri : (r : Int) + 2 ≤ (n1 : Int) := by omega
  have hni : (n1 : Int) ≤ 4096 := by omega
  have hi1 : IntKind.i64.wrap ((n1 : Int) - (r : Int)) = (B.length : Int) := by rw [IntKind.wrap_i64]; omega
  have hi2 : IntKind.i64.wrap ((r : Int) + 2) = (r : Int) + 2 := by rw [IntKind.wrap_i64]; omega
  have hge : ¬ (B.length : Int) < 2 := by omega
  have hgd : decide ((B.length : Int) < 2) = false := decide_eq_false hge
  have H := Lib.hid (And.intro h (And.intro hn1 P2))
  clear h hn1
  have d0 := P2.c0
  have d2 := P2.c2
  have d3 := P2.c3
  have d4 := P2.c4
  clear P2
  generalize hw2 : (w.setCell ⟨p, 5, none⟩ (.int .i64 (-1))).setCell ⟨p, 6, none⟩ (.int .i64 (-1)) = w2 at *
  have HW := Lib.hid hw2
  go_enter Tryd.func45, Tryd.ntmps45
  go_wp2
  clear hw2 c5 f5 f6 c6 g6
  go_loopg [] 0 (fun gk wr => gk = 0 ∧ wr = w2)
  case atStart => exact ⟨rfl, rfl⟩
  case round =>
    obtain ⟨rfl, rfl⟩ := hrel
    go_wp2
    go_quiet (fail)
    go_wp2
    go_quiet (fail)
    go_wp2
    go_quiet (fail)
    go_wp2
    go_ret2
    obtain ⟨h, hn1, P2⟩ := H.out
    have C : Chg (fun k => k = p) w wr := by rw [← HW.out]; exact ((Chg.refl (fun k => k = p) _).setCell (p := ⟨p, 5, none⟩) (fun _ => rfl) _).setCell (p := ⟨p, 6, none⟩) (fun _ => rfl) _
    have N : ∀ k, k ≠ p → wr.heap[k]? = w.heap[k]? := fun k hk => by rw [← HW.out]; exact (Below.heap_setCell _ _ _ _ hk).trans (Below.heap_setCell _ _ _ _ hk)
    obtain ⟨L, hL, hLB⟩ := h.row
    have hR : Rd K base E gs p bb wr B U r z (-1) (-1) := h.new (C.sub (fun k _ e => .inl e)) (by rw [hn1] at P2; exact P2) ⟨L, hL.same (N bb h.lay.nb.symm), hLB⟩ h.le (K.same h.u fun k hk => N k (fun e => h.lay.np (e ▸ hk))) h.end_
    have e2 : r + 2 - r = 2 := by omega
    refine ⟨?_, hR.only ⟨rfl, rfl, rfl, rfl⟩, C.trans ⟨rfl, rfl, rfl, Nat.le_refl _, fun _ _ _ => rfl⟩⟩
    show Ending.returned (.tuple #[.slice (some ⟨bb, r, none⟩) (r + 2 - r) (4096 - r), .nilIface]) = _
    rw [e2]
end Go.Proofs.YtilhgjcjofobeaaDoor
namespace Go.Proofs.YtilhgjcjofobeaaDoor
open Go.RowKit

set_option maxRecDepth 200000 in
set_option maxHeartbeats 4000000 in
theorem peekN_any {K : Und} {base p bb : Nat} {E : Nat → Addr} {gs : List Nat} {w : World} {B U : List UInt8} {r : Nat} {z : Bool} {lb lr : Int} (h : Rd K base E gs p bb w B U r z lb lr) (n : Nat) (hn0 : 1 ≤ n) (hB : n ≤ B.length) :
    Calls Tryd.prog 45 #[.pointer (some ⟨p, 0, none⟩), .int .i64 n] w fun e w' => e = .returned (.tuple #[.slice (some ⟨bb, r, none⟩) n (4096 - r), .nilIface]) ∧ Rd K base E gs p bb w' B U r z (-1) (-1) ∧ Chg (fun k => k = p) w w' := by
  have hle := h.le
  obtain ⟨n1, hn1⟩ : ∃ n1 : Nat, n1 = r + B.length := ⟨_, rfl⟩
  have c5 := h.c.c5
  have f5 := h.c.f 5
  have f6 := h.c.f 6
  have P2 : RdC ((w.setCell ⟨p, 5, none⟩ (.int .i64 (-1))).setCell ⟨p, 6, none⟩ (.int .i64 (-1))) p bb K.rd r (n1 : Int) (eofV E z) (-1) (-1) := by
    have := (h.c.set5 (-1)).set6 (-1)
    rw [hn1]
    exact this
  have c6 := (h.c.set5 (-1)).c6
  have g6 := (h.c.set5 (-1)).f 6
  have hn4 : n ≤ 4096 := by omega
  have hr4 : ¬ 4096 = r := by omega
  have hri : (r : Int) + (n : Int) ≤ (n1 : Int) := by omega
  have hni : (n1 : Int) ≤ 4096 := by omega
  have hi1 : IntKind.i64.wrap ((n1 : Int) - (r : Int)) = (B.length : Int) := by rw [IntKind.wrap_i64]; omega
  have hi2 : IntKind.i64.wrap ((r : Int) + (n : Int)) = (r : Int) + (n : Int) := by rw [IntKind.wrap_i64]; omega
  have hge : ¬ (B.length : Int) < (n : Int) := by omega
  have hge2 : ¬ B.length < n := by omega
  have hgd : decide (B.length < n) = false := decide_eq_false hge2
  have H := Lib.hid (And.intro h (And.intro hn1 P2))
  clear h hn1
  have d0 := P2.c0
  have d2 := P2.c2
  have d3 := P2.c3
  have d4 := P2.c4
  clear P2
  generalize hw2 : (w.setCell ⟨p, 5, none⟩ (.int .i64 (-1))).setCell ⟨p, 6, none⟩ (.int .i64 (-1)) = w2 at *
  have HW := Lib.hid hw2
  go_enter Tryd.func45, Tryd.ntmps45
  go_wp2
  clear hw2 c5 f5 f6 c6 g6
  go_loopg [] 0 (fun gk wr => gk = 0 ∧ wr = w2)
  case atStart => exact ⟨rfl, rfl⟩
  case round =>
    obtain ⟨rfl, rfl⟩ := hrel
    go_wp2
    go_quiet (fail)
    go_wp2
    go_quiet (fail)
    go_wp2
    go_quiet (fail)
    go_wp2
    go_ret2
    obtain ⟨h, hn1, P2⟩ := H.out
    have C : Chg (fun k => k = p) w wr := by rw [← HW.out]; exact ((Chg.refl (fun k => k = p) _).setCell (p := ⟨p, 5, none⟩) (fun _ => rfl) _).setCell (p := ⟨p, 6, none⟩) (fun _ => rfl) _
    have N : ∀ k, k ≠ p → wr.heap[k]? = w.heap[k]? := fun k hk => by rw [← HW.out]; exact (Below.heap_setCell _ _ _ _ hk).trans (Below.heap_setCell _ _ _ _ hk)
    obtain ⟨L, hL, hLB⟩ := h.row
    have hR : Rd K base E gs p bb wr B U r z (-1) (-1) := h.new (C.sub (fun k _ e => .inl e)) (by rw [hn1] at P2; exact P2) ⟨L, hL.same (N bb h.lay.nb.symm), hLB⟩ h.le (K.same h.u fun k hk => N k (fun e => h.lay.np (e ▸ hk))) h.end_
    have e2 : r + n - r = n := by omega
    refine ⟨?_, hR.only ⟨rfl, rfl, rfl, rfl⟩, C.trans ⟨rfl, rfl, rfl, Nat.le_refl _, fun _ _ _ => rfl⟩⟩
    show Ending.returned (.tuple #[.slice (some ⟨bb, r, none⟩) (r + n - r) (4096 - r), .nilIface]) = _
    rw [e2]
/-- What Peek(1) leaves: the first byte, which has not been read. -/
def PkEnd (K : Und) (base : Nat) (E : Nat → Addr) (gs : List Nat) (p bb : Nat) (S : List UInt8) (w : World) (e : Ending) (w' : World) : Prop :=
  ∃ (c : UInt8) (B U : List UInt8) (r : Nat) (z : Bool), e = .returned (.tuple #[.slice (some ⟨bb, r, none⟩) 1 (4096 - r), .nilIface]) ∧ Rd K base E gs p bb w' (c :: B) U r z (-1) (-1) ∧ c :: B ++ U = S ∧ Chg (Rd.S K p bb) w w'
set_option maxRecDepth 200000 in
set_option maxHeartbeats 4000000 in
theorem peek1_fill {K : Und} (hK : FillOK K) {base p bb : Nat} {E : Nat → Addr} {gs : List Nat} {w : World} {U : List UInt8} {r : Nat} {lb lr : Int} (h : Rd K base E gs p bb w [] U r false lb lr) (hU : U ≠ []) (hg : 0 ∈ gs) :
    Calls Tryd.prog 45 #[.pointer (some ⟨p, 0, none⟩), .int .i64 1] w (PkEnd K base E gs p bb U w) := by
  have c5 := h.c.c5
  have f5 := h.c.f 5
  have f6 := h.c.f 6
  have c6 := (h.c.set5 (-1)).c6
  have g6 := (h.c.set5 (-1)).f 6
  have C2 : Chg (Rd.S K p bb) w ((w.setCell ⟨p, 5, none⟩ (.int .i64 (-1))).setCell ⟨p, 6, none⟩ (.int .i64 (-1))) := ((Chg.refl _ _).setCell (p := ⟨p, 5, none⟩) (fun _ => .inl rfl) _).setCell (p := ⟨p, 6, none⟩) (fun _ => .inl rfl) _
  have N2 : ∀ k, k ≠ p → ((w.setCell ⟨p, 5, none⟩ (.int .i64 (-1))).setCell ⟨p, 6, none⟩ (.int .i64 (-1))).heap[k]? = w.heap[k]? := fun k hk => (Below.heap_setCell _ _ _ _ hk).trans (Below.heap_setCell _ _ _ _ hk)
  have R2 : Rd K base E gs p bb ((w.setCell ⟨p, 5, none⟩ (.int .i64 (-1))).setCell ⟨p, 6, none⟩ (.int .i64 (-1))) [] U r false (-1) (-1) := by
    obtain ⟨L, hL, hLB⟩ := h.row
    exact h.new C2 ((h.c.set5 (-1)).set6 (-1)) ⟨L, hL.same (N2 bb h.lay.nb.symm), hLB⟩ h.le (K.same h.u fun k hk => N2 k (fun e => h.lay.np (e ▸ hk))) h.end_
  have H := Lib.hid (And.intro R2 C2)
  clear h R2 C2 N2
  go_enter Tryd.func45, Tryd.ntmps45
  go_wp2
  clear c5 f5 f6 c6 g6
  generalize (w.setCell ⟨p, 5, none⟩ (.int .i64 (-1))).setCell ⟨p, 6, none⟩ (.int .i64 (-1)) = w2 at *
  go_loopg [] 1 (fun gk wr => Hid ((gk = 1 ∧ wr = w2) ∨ (gk = 0 ∧ ∃ (c : UInt8) (B U' : List UInt8) (r' : Nat) (z' : Bool), Rd K base E gs p bb wr (c :: B) U' r' z' (-1) (-1) ∧ c :: B ++ U' = U ∧ Chg (Rd.S K p bb) w wr)))
  case atStart => exact Lib.hid (.inl ⟨rfl, rfl⟩)
  case round =>
    rcases hrel.out with ⟨rfl, rfl⟩ | ⟨rfl, c, B, U', r', z', hR, hBU, hC⟩
    · obtain ⟨n1, hn1⟩ : ∃ n1 : Nat, n1 = r + ([] : List UInt8).length := ⟨_, rfl⟩
      have c0 := H.out.1.c.c0
      have c2 := H.out.1.c.c2
      have c3 := H.out.1.c.c3
      have c4 : wr.cell? ⟨p, 4, none⟩ = some .nilIface := H.out.1.c.c4
      rw [← hn1] at c3
      have hi1 : IntKind.i64.wrap ((n1 : Int) - (r : Int)) = 0 := by rw [IntKind.wrap_i64, hn1]; simp
      have HN := Lib.hid hn1
      have hfl : ∀ m, Calls Tryd.prog 67 #[.pointer (some ⟨p, 0, none⟩)] (wr.drewN m) (FillEnd K base E gs p bb [] U (-1) (-1) (wr.drewN m)) := fun m => hK base E gs p bb (wr.drewN m) [] U r (-1) (-1) (H.out.1.only ((Only.refl _).drewN m)) (by simp) hg
      have HF := Lib.hid hfl
      have HU := Lib.hid hU
      clear hfl hn1 hrel hU
      go_wp2
      go_quiet (fail)
      go_wp2_with (go_at_call 67; refine (HF.out nq).mono ?_; rintro e w3 ⟨rfl, ⟨X, U2, hU2, hR, hX⟩, hC2⟩; have H2 := Lib.hid (And.intro hU2 (And.intro hR (And.intro hX hC2))); clear hU2 hR hX hC2)
      go_roundg 0
      case measure => omega
      case rel =>
        obtain ⟨hU2, hR, hX, hC2⟩ := H2.out
        rcases X with _ | ⟨c, X⟩
        · exact absurd (hX rfl) HU.out
        · exact Lib.hid (.inr ⟨rfl, c, X, U2, 0, _, hR, by rw [hU2], H.out.2.trans (((Chg.refl _ wr).drewN nq).trans hC2)⟩)
    · have hle := hR.le
      obtain ⟨n1, hn1⟩ : ∃ n1 : Nat, n1 = r' + (c :: B).length := ⟨_, rfl⟩
      have d0 := hR.c.c0
      have d2 := hR.c.c2
      have d3 := hR.c.c3
      have d4 := hR.c.c4
      rw [← hn1] at d3
      have hri : (r' : Int) + 1 ≤ (n1 : Int) := by rw [hn1, List.length_cons]; omega
      have hni : (n1 : Int) ≤ 4096 := by omega
      obtain ⟨m, hm⟩ : ∃ m : Nat, m = (c :: B).length := ⟨_, rfl⟩
      have hi1 : IntKind.i64.wrap ((n1 : Int) - (r' : Int)) = (m : Int) := by rw [IntKind.wrap_i64]; omega
      have hi2 : IntKind.i64.wrap ((r' : Int) + 1) = (r' : Int) + 1 := by rw [IntKind.wrap_i64]; omega
      have hge : ¬ (m : Int) < 1 := by rw [hm, List.length_cons]; omega
      have hgd : decide ((m : Int) < 1) = false := decide_eq_false hge
      have HR := Lib.hid (And.intro hR (And.intro hBU hC))
      clear hR hBU hC hrel hn1 hm hle
      go_wp2
      go_quiet (fail)
      go_wp2
      go_quiet (fail)
      go_wp2
      go_quiet (fail)
      go_wp2
      go_ret2
      exact ⟨c, B, U', r', z', rfl, HR.out.1.only ⟨rfl, rfl, rfl, rfl⟩, HR.out.2.1, HR.out.2.2.trans ⟨rfl, rfl, rfl, Nat.le_refl _, fun _ _ _ => rfl⟩⟩
theorem peek1_any {K : Und} (hK : FillOK K) {base p bb : Nat} {E : Nat → Addr} {gs : List Nat} {w : World} {S : List UInt8} (h : Rs K base E gs p bb w S) (hS : S ≠ []) (hg : 0 ∈ gs) :
    Calls Tryd.prog 45 #[.pointer (some ⟨p, 0, none⟩), .int .i64 1] w (PkEnd K base E gs p bb S w) := by
  obtain ⟨B, U, r, z, lb, lr, h, rfl⟩ := h
  rcases B with _ | ⟨c, B⟩
  · rcases z with _ | _
    · exact peek1_fill hK h hS hg
    · exact absurd (h.end_ rfl).1 hS
  · refine (peekN_any h 1 (Nat.le_refl _) (by simp)).mono fun e w' hh => ?_
    exact ⟨c, B, U, r, z, hh.1, hh.2.1, rfl, hh.2.2.sub fun k _ e => .inl e⟩
end Go.Proofs.YtilhgjcjofobeaaDoor
