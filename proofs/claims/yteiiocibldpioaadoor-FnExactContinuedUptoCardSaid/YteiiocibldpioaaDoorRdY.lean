/- The walk of bufio's UnreadByte, behind a ReadByte. -/
import Derived.Test.YteiiocibldpioaaDoorRdX
namespace Go.Proofs.YteiiocibldpioaaDoor
open Go.RowKit

set_option maxRecDepth 200000 in
set_option maxHeartbeats 4000000 in
theorem unreadByte_any {K : Und} {base p bb : Nat} {E : Nat → Addr} {gs : List Nat} {w : World} {B U : List UInt8} {r : Nat} {z : Bool} {c : UInt8} {lr : Int} (h : Rd K base E gs p bb w B U (r + 1) z c.toNat lr) :
    Calls Tryd.prog 83 #[.pointer (some ⟨p, 0, none⟩)] w fun e w' => e = .returned .nilIface ∧ Rd K base E gs p bb w' (c :: B) U r z (-1) (-1) ∧ Chg (Rd.S K p bb) w w' := by
  have c2 : w.cell? ⟨p, 2, none⟩ = some (.int .i64 ((r : Int) + 1)) := by
    have := h.c.c2
    rwa [show ((r + 1 : Nat) : Int) = (r : Int) + 1 by omega] at this
  have c3 := h.c.c3
  have c5 := h.c.c5
  have f2 := h.c.f 2
  obtain ⟨n1, hn1⟩ : ∃ n1 : Nat, n1 = r + 1 + B.length := ⟨_, rfl⟩
  rw [← hn1] at c3
  have hle := h.le
  have hr : (r : Int) < 4096 := by omega
  have hr0 : (0 : Int) ≤ (r : Int) := by omega
  have hbn := byte_le c
  have hb0 : (0 : Int) ≤ (c.toNat : Int) := by omega
  have hz : ((r : Int) + 1 == 0) = false := by rw [beq_eq_false_iff_ne]; omega
  have hlt : decide ((c.toNat : Int) < 0) = false := by rw [decide_eq_false_iff_not]; omega
  have H := Lib.hid (And.intro h hn1)
  clear h hn1 hle
  go_enter Tryd.func83, Tryd.ntmps83
  go_wp2
  obtain ⟨h, hn1⟩ := H.out
  have P1 := h.c.set2 (r : Int)
  have N1 : ∀ k, k ≠ p → (w.setCell ⟨p, 2, none⟩ (.int .i64 (r : Int))).heap[k]? = w.heap[k]? := fun k hk => Below.heap_setCell _ _ _ _ hk
  have C1 : Chg (Rd.S K p bb) w (w.setCell ⟨p, 2, none⟩ (.int .i64 (r : Int))) := (Chg.refl _ _).setCell (p := ⟨p, 2, none⟩) (fun _ => .inl rfl) _
  generalize w.setCell ⟨p, 2, none⟩ (.int .i64 (r : Int)) = w1 at P1 N1 C1 ⊢
  obtain ⟨L, hL, hLB⟩ := h.row
  have R1 := hL.same (N1 bb h.lay.nb.symm)
  have U1 := K.same h.u fun k hk => N1 k (fun e => h.lay.np (e ▸ hk))
  clear c2 c3 c5 f2
  refine wp_still_drew 14 Tryd.mixedD (by kernel_rfl) (fun w2 hw2 => ?_)
  have hO2 : Only w1 w2 := by rw [hw2]; exact (Only.refl w1).drew
  clear hw2
  have P2 := P1.same (hO2.at_ p)
  have R2 := R1.same (hO2.at_ bb)
  have U2 := K.same U1 fun k _ => hO2.at_ k
  have C2 := C1.trans (hO2.chg _)
  have c0 := P2.c0
  have c2 := P2.c2
  have c5 := P2.c5
  have cb := R2.cell (i := r) (by omega)
  have fb := R2.free (i := r) (by omega)
  have hwr := u8wrap c
  have K2 := Lib.hid (And.intro P2 (And.intro R2 (And.intro U2 (And.intro C2 hLB))))
  clear P1 N1 C1 R1 U1 hO2 P2 R2 U2 C2 hL hLB h hn1
  simp only [List.take_succ_cons, List.take_zero, List.drop_succ_cons, List.drop_zero]
  repeat still_step
  refine wpStill_nil ?_
  obtain ⟨P2, R2, U2, C2, hLB⟩ := K2.out
  obtain ⟨h, hn1⟩ := H.out
  have P3 := P2.same (Below.heap_setCell w2 ⟨bb, r, none⟩ (.int .u8 c.toNat) p h.lay.nb)
  have d5 := P3.c5
  have g5 := P3.f 5
  have d6 := P3.c6
  have g6 := P3.f 6
  have K3 := Lib.hid P3
  clear P2 R2 U2 C2 hLB h hn1 P3
  go_wp2
  go_ret
  obtain ⟨P2, R2, U2, C2, hLB⟩ := K2.out
  obtain ⟨h, hn1⟩ := H.out
  have hP := (K3.out.set5 (-1)).set6 (-1)
  have N3 : ∀ k, k ≠ p → (((w2.setCell ⟨bb, r, none⟩ (.int .u8 c.toNat)).setCell ⟨p, 5, none⟩ (.int .i64 (-1))).setCell ⟨p, 6, none⟩ (.int .i64 (-1))).heap[k]? = (w2.setCell ⟨bb, r, none⟩ (.int .u8 c.toNat)).heap[k]? := fun k hk => (Below.heap_setCell _ _ _ _ hk).trans (Below.heap_setCell _ _ _ _ hk)
  have C3 : Chg (Rd.S K p bb) w (((w2.setCell ⟨bb, r, none⟩ (.int .u8 c.toNat)).setCell ⟨p, 5, none⟩ (.int .i64 (-1))).setCell ⟨p, 6, none⟩ (.int .i64 (-1))) :=
    ((C2.setCell (p := ⟨bb, r, none⟩) (fun _ => .inr (.inl rfl)) _).setCell (p := ⟨p, 5, none⟩) (fun _ => .inl rfl) _).setCell (p := ⟨p, 6, none⟩) (fun _ => .inl rfl) _
  have hll := R2.len
  have hr4 : r < L.length := by omega
  have R3 := R2.set (i := r) (by omega) c
  refine ⟨rfl, h.new C3 ?_ ⟨L.set r c, R3.same (N3 bb h.lay.nb.symm), ?_⟩ ?_ (K.same U2 fun k hk => (N3 k (fun e => h.lay.np (e ▸ hk))).trans (Below.heap_setCell _ _ _ _ (fun e => h.lay.nbb (by have e' : k = bb := e; rw [← e']; exact hk)))) (fun e => ⟨(h.end_ e).1, by have := (h.end_ e).2; rw [List.length_cons]; omega⟩), C3⟩
  · rw [show ((r + (c :: B).length : Nat) : Int) = ((r + 1 + B.length : Nat) : Int) by rw [List.length_cons]; omega]
    exact hP
  · rw [List.drop_set, if_neg (Nat.lt_irrefl r), Nat.sub_self, List.drop_eq_getElem_cons hr4]
    show c :: List.take B.length (L.drop (r + 1)) = c :: B
    rw [hLB]
  · have := h.le
    rw [List.length_cons]
    omega
end Go.Proofs.YteiiocibldpioaaDoor
