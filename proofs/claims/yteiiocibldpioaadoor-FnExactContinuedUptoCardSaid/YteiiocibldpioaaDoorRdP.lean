/- The walk of bufio's Peek(2), where two bytes at least lie in the buffer. -/
import Derived.Test.YteiiocibldpioaaDoorRdX
namespace Go.Proofs.YteiiocibldpioaaDoor
open Go.RowKit

set_option maxRecDepth 200000 in
set_option maxHeartbeats 4000000 in
theorem peek2_any {K : Und} {base p bb : Nat} {E : Nat → Addr} {gs : List Nat} {w : World} {B U : List UInt8} {r : Nat} {z : Bool} {lb lr : Int} (h : Rd K base E gs p bb w B U r z lb lr) (hB : 2 ≤ B.length) :
    Calls Tryd.prog 76 #[.pointer (some ⟨p, 0, none⟩), .int .i64 2] w fun e w' => e = .returned (.tuple #[.slice (some ⟨bb, r, none⟩) 2 (4096 - r), .nilIface]) ∧ Rd K base E gs p bb w' B U r z (-1) (-1) ∧ Chg (fun k => k = p) w w' := by
  have hle := h.le
  obtain ⟨n1, hn1⟩ : ∃ n1 : Nat, n1 = r + B.length := ⟨_, rfl⟩
  have c5 := h.c.c5
  have f5 := h.c.f 5
  have f6 := h.c.f 6
  have P2 : RdC ((w.setCell ⟨p, 5, none⟩ (.int .i64 (-1))).setCell ⟨p, 6, none⟩ (.int .i64 (-1))) p bb K.rd r (n1 : Int) (eofV E z) (-1) (-1) := by
    have := (h.c.set5 (-1)).set6 (-1)
    rw [hn1]
    exact this
  have c6 := (h.c.set5 (-1)).c6
  have g6 := (h.c.set5 (-1)).f 6
  have hr4 : ¬ 4096 = r := by omega
  have hri : (r : Int) + 2 ≤ (n1 : Int) := by omega
  have hni : (n1 : Int) ≤ 4096 := by omega
  have hi1 : IntKind.i64.wrap ((n1 : Int) - (r : Int)) = (B.length : Int) := by rw [IntKind.wrap_i64]; omega
  have hi2 : IntKind.i64.wrap ((r : Int) + 2) = (r : Int) + 2 := by rw [IntKind.wrap_i64]; omega
  have hge : ¬ (B.length : Int) < 2 := by omega
  have hgd : decide ((B.length : Int) < 2) = false := decide_eq_false hge
  have H := Lib.hid (And.intro h (And.intro hn1 P2))
  clear h hn1
  have d0 := P2.c0
  have d2 := P2.c2
  have d3 := P2.c3
  have d4 := P2.c4
  clear P2
  generalize hw2 : (w.setCell ⟨p, 5, none⟩ (.int .i64 (-1))).setCell ⟨p, 6, none⟩ (.int .i64 (-1)) = w2 at *
  have HW := Lib.hid hw2
  go_enter Tryd.func76, Tryd.ntmps76
  go_wp2
  clear hw2 c5 f5 f6 c6 g6
  go_loopg [] 0 (fun gk wr => gk = 0 ∧ wr = w2)
  case atStart => exact ⟨rfl, rfl⟩
  case round =>
    obtain ⟨rfl, rfl⟩ := hrel
    go_wp2
    go_quiet (fail)
    go_wp2
    go_quiet (fail)
    go_wp2
    go_quiet (fail)
    go_wp2
    go_ret2
    obtain ⟨h, hn1, P2⟩ := H.out
    have C : Chg (fun k => k = p) w wr := by rw [← HW.out]; exact ((Chg.refl (fun k => k = p) _).setCell (p := ⟨p, 5, none⟩) (fun _ => rfl) _).setCell (p := ⟨p, 6, none⟩) (fun _ => rfl) _
    have N : ∀ k, k ≠ p → wr.heap[k]? = w.heap[k]? := fun k hk => by rw [← HW.out]; exact (Below.heap_setCell _ _ _ _ hk).trans (Below.heap_setCell _ _ _ _ hk)
    obtain ⟨L, hL, hLB⟩ := h.row
    have hR : Rd K base E gs p bb wr B U r z (-1) (-1) := h.new (C.sub (fun k _ e => .inl e)) (by rw [hn1] at P2; exact P2) ⟨L, hL.same (N bb h.lay.nb.symm), hLB⟩ h.le (K.same h.u fun k hk => N k (fun e => h.lay.np (e ▸ hk))) h.end_
    have e2 : r + 2 - r = 2 := by omega
    refine ⟨?_, hR.only ⟨rfl, rfl, rfl, rfl⟩, C.trans ⟨rfl, rfl, rfl, Nat.le_refl _, fun _ _ _ => rfl⟩⟩
    show Ending.returned (.tuple #[.slice (some ⟨bb, r, none⟩) (r + 2 - r) (4096 - r), .nilIface]) = _
    rw [e2]
end Go.Proofs.YteiiocibldpioaaDoor
