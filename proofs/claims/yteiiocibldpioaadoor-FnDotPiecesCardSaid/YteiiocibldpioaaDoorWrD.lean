/- A bufio.Writer over a bytes.Buffer: its state, and the walks of Available, Buffered, Flush and WriteByte. -/
import Derived.Test.YteiiocibldpioaaDoorWrC
namespace Go.Proofs.YteiiocibldpioaaDoor
open Go.RowKit

/-- The cells of a bufio.Writer. -/
def wcells (b bb n : Nat) : Array Value := #[.nilIface, .slice (some ⟨bb, 0, none⟩) 4096 4096, .int .i64 n, .iface 63 (.pointer (some ⟨b, 0, none⟩))]
/-- A bufio.Writer in block p, its row in block bb, over a bytes.Buffer in block b that holds O; B waits in the row. -/
structure Wd (w : World) (base b p bb : Nat) (N : Nat → Prop) (O B : List UInt8) : Prop where
  bf : Bf w base b N O
  np : N p
  nbb : N bb
  pbb : p ≠ bb
  bp : base ≤ p
  bbb : base ≤ bb
  size : base ≤ w.heap.size
  nw : ∀ k, N k → k < w.heap.size
  c : Blk w p (wcells b bb B.length) 104
  row : ∃ L, RowB w bb 4096 L ∧ L.take B.length = B
  le : B.length ≤ 4096
/-- The frame of what a writer does. -/
def SW (base p bb : Nat) (N : Nat → Prop) (k : Nat) : Prop := SB base N k ∨ k = p ∨ k = bb
section
variable {w w' : World} {base b p bb : Nat} {N : Nat → Prop} {O B : List UInt8}
theorem Wd.same (h : Wd w base b p bb N O B) (hC : Only w w') : Wd w' base b p bb N O B := by
  have hs : w'.heap.size = w.heap.size := by rw [hC.heap]
  obtain ⟨L, h1, h2⟩ := h.row
  exact ⟨h.bf.turn (fun _ _ e => e) (fun k _ _ => hC.at_ k), h.np, h.nbb, h.pbb, h.bp, h.bbb, by rw [hs]; exact h.size, fun k hk => by rw [hs]; exact h.nw k hk, h.c.same (hC.at_ p), ⟨L, h1.same (hC.at_ bb), h2⟩, h.le⟩
theorem avail_any (h : Wd w base b p bb N O B) : Calls Tryd.prog 86 #[.pointer (some ⟨p, 0, none⟩)] w fun e w' => e = .returned (.int .i64 (4096 - B.length : Nat)) ∧ Only w w' := by
  have c1 : w.cell? ⟨p, 1, none⟩ = some (.slice (some ⟨bb, 0, none⟩) 4096 4096) := h.c.cell 1
  have c2 : w.cell? ⟨p, 2, none⟩ = some (.int .i64 B.length) := h.c.cell 2
  have hle := h.le
  have hi0 : IntKind.i64.wrap (4096 - (B.length : Int)) = ((4096 - B.length : Nat) : Int) := by rw [IntKind.wrap_i64]; omega
  clear h
  go_enter Tryd.func86, Tryd.ntmps86
  go_wp2
  go_region_held3 (fun wx => wx.cell? ⟨p, 1, none⟩ = some (.slice (some ⟨bb, 0, none⟩) 4096 4096) ∧ wx.cell? ⟨p, 2, none⟩ = some (.int .i64 B.length)) (first | go_keep) (fail)
  go_wp2
  go_ret
  exact ⟨rfl, (Only.refl _).drew⟩
theorem wbuffered_any (h : Wd w base b p bb N O B) : Calls Tryd.prog 87 #[.pointer (some ⟨p, 0, none⟩)] w fun e w' => e = .returned (.int .i64 B.length) ∧ w = w' := by
  have c2 : w.cell? ⟨p, 2, none⟩ = some (.int .i64 B.length) := h.c.cell 2
  clear h
  go_enter Tryd.func87, Tryd.ntmps87
  go_wp2
  go_ret
  exact ⟨rfl, rfl⟩
set_option maxRecDepth 200000 in
set_option maxHeartbeats 6400000 in
theorem flush_any (h : Wd w base b p bb N O B) (hlim : O.length + B.length ≤ 140737488355328) :
    Calls Tryd.prog 42 #[.pointer (some ⟨p, 0, none⟩)] w fun e w' => e = .returned .nilIface ∧ Wd w' base b p bb N (O ++ B) [] ∧ Chg (SW base p bb N) w w' := by
  have c0 : w.cell? ⟨p, 0, none⟩ = some .nilIface := h.c.cell 0
  have c1 : w.cell? ⟨p, 1, none⟩ = some (.slice (some ⟨bb, 0, none⟩) 4096 4096) := h.c.cell 1
  have c2 : w.cell? ⟨p, 2, none⟩ = some (.int .i64 B.length) := h.c.cell 2
  have c3 : w.cell? ⟨p, 3, none⟩ = some (.iface 63 (.pointer (some ⟨b, 0, none⟩))) := h.c.cell 3
  by_cases h0 : B.length = 0
  · obtain rfl : B = [] := List.eq_nil_of_length_eq_zero h0
    have HE := Lib.hid h
    clear h h0
    go_enter Tryd.func42, Tryd.ntmps42
    go_wp2
    go_ret
    exact ⟨rfl, by rw [List.append_nil]; exact HE.out, Chg.refl _ _⟩
  · have hle := h.le
    have hli : (B.length : Int) ≤ 4096 := by omega
    have hl0 : ((B.length : Int) == 0) = false := by rw [beq_eq_false_iff_ne]; omega
    have hpos : 0 < B.length := by omega
    obtain ⟨L, hL, hLB⟩ := h.row
    have hrb : RB w.drew (some ⟨bb, 0, none⟩) B := (hL.rb 0 B (by simpa using hLB) (by omega)).drewN 1
    have hbw := bufWrite_any (w := w.drew) (c := 4096) ((h.bf.turn (fun _ _ e => e) (fun k _ _ => rfl) : Bf w.drew base b N O)) h.size h.nw hrb rfl (fun g o e => by injection e with e; injection e with e _; subst e; exact h.nbb) hpos hlim
    have H := Lib.hid (And.intro h (And.intro hbw (And.intro hL hLB)))
    clear h hbw hL hLB hrb h0
    go_enter Tryd.func42, Tryd.ntmps42
    go_wp2
    go_region_held3 (fun wx => wx.cell? ⟨p, 1, none⟩ = some (.slice (some ⟨bb, 0, none⟩) 4096 4096) ∧ wx.cell? ⟨p, 2, none⟩ = some (.int .i64 B.length) ∧ wx.cell? ⟨p, 3, none⟩ = some (.iface 63 (.pointer (some ⟨b, 0, none⟩))))
      (first | go_keep | exact ⟨(HP.out.1.cell 1), (HP.out.1.cell 2), (HP.out.1.cell 3)⟩)
      (first | (go_at_call 108; refine H.out.2.1.mono ?_; rintro e w3 ⟨rfl, hbf, hC⟩; have hp3 : Blk w3 p (wcells b bb B.length) 104 := H.out.1.c.same (hC.block p (H.out.1.nw p H.out.1.np) (fun e => e.2 H.out.1.np)); have HP := Lib.hid (And.intro hp3 (And.intro hbf hC)); clear hp3 hbf hC))
    have d2 : w3.cell? ⟨p, 2, none⟩ = some (.int .i64 B.length) := HP.out.1.cell 2
    have f2 := HP.out.1.free 2
    go_wp2
    go_ret
    obtain ⟨hp3, hbf, hC⟩ := HP.out
    obtain ⟨h, _, hL, hLB⟩ := H.out
    have N3 : ∀ k, k ≠ p → (w3.setCell ⟨p, 2, none⟩ (.int .i64 0)).heap[k]? = w3.heap[k]? := fun k hk => Below.heap_setCell _ _ _ _ hk
    have hsz : (w3.setCell ⟨p, 2, none⟩ (.int .i64 0)).heap.size = w3.heap.size := World.size_setCell _ _ _
    have hC1 : Chg (SB base N) w w3 := ((Chg.refl _ w).drew).trans hC
    refine ⟨rfl, ⟨hbf.turn (fun _ _ e => e) (fun k _ hk => N3 k (fun e => hk (e ▸ h.np))), h.np, h.nbb, h.pbb, h.bp, h.bbb, by rw [hsz]; have := hC1.size; have := h.size; omega, fun k hk => by rw [hsz]; exact Nat.lt_of_lt_of_le (h.nw k hk) hC1.size, hp3.set 2 _, ⟨L, (hL.same (hC1.block bb (h.nw bb h.nbb) (fun e => e.2 h.nbb))).same (N3 bb (Ne.symm h.pbb)), rfl⟩, by simp⟩, (hC1.sub (fun k _ e => .inl e)).setCell (p := ⟨p, 2, none⟩) (fun _ => .inr (.inl rfl)) _⟩
theorem Wd.put (h : Wd w base b p bb N O B) (hlt : B.length < 4096) (c : UInt8) : Wd ((w.setCell ⟨bb, B.length, none⟩ (.int .u8 c.toNat)).setCell ⟨p, 2, none⟩ (.int .i64 ((B.length : Int) + 1))) base b p bb N O (B ++ [c]) ∧ Chg (SW base p bb N) w ((w.setCell ⟨bb, B.length, none⟩ (.int .u8 c.toNat)).setCell ⟨p, 2, none⟩ (.int .i64 ((B.length : Int) + 1))) := by
  have hsz : ((w.setCell ⟨bb, B.length, none⟩ (.int .u8 c.toNat)).setCell ⟨p, 2, none⟩ (.int .i64 ((B.length : Int) + 1))).heap.size = w.heap.size := by rw [World.size_setCell, World.size_setCell]
  have hN : ∀ k, k ≠ p → k ≠ bb → ((w.setCell ⟨bb, B.length, none⟩ (.int .u8 c.toNat)).setCell ⟨p, 2, none⟩ (.int .i64 ((B.length : Int) + 1))).heap[k]? = w.heap[k]? := fun k h1 h2 => (Below.heap_setCell _ _ _ _ h1).trans (Below.heap_setCell _ _ _ _ h2)
  obtain ⟨L, hL, hLB⟩ := h.row
  have hll := hL.len
  refine ⟨⟨h.bf.turn (fun _ _ e => e) (fun k _ hk => hN k (fun e => hk (e ▸ h.np)) (fun e => hk (e ▸ h.nbb))), h.np, h.nbb, h.pbb, h.bp, h.bbb, by rw [hsz]; exact h.size, fun k hk => by rw [hsz]; exact h.nw k hk, ?_, ⟨L.set B.length c, (hL.set hlt c).same (Below.heap_setCell _ _ _ _ (Ne.symm h.pbb)), ?_⟩, by simp; omega⟩, ((Chg.refl _ w).setCell (p := ⟨bb, B.length, none⟩) (fun _ => .inr (.inr rfl)) _).setCell (p := ⟨p, 2, none⟩) (fun _ => .inr (.inl rfl)) _⟩
  · have := (h.c.setOther (k := bb) B.length (.int .u8 c.toNat) h.pbb).set 2 (.int .i64 ((B.length : Int) + 1))
    rw [List.length_append]
    exact this
  · rw [List.length_append]
    show (L.set B.length c).take (B.length + 1) = B ++ [c]
    rw [List.take_succ_eq_append_getElem (by rw [List.length_set]; omega), List.take_set, hLB, List.getElem_set_self, List.set_eq_of_length_le (Nat.le_refl _)]
set_option maxRecDepth 200000 in
set_option maxHeartbeats 6400000 in
theorem writeByte_room (h : Wd w base b p bb N O B) (hlt : B.length < 4096) (c : UInt8) :
    Calls Tryd.prog 80 #[.pointer (some ⟨p, 0, none⟩), .int .u8 c.toNat] w fun e w' => e = .returned .nilIface ∧ Wd w' base b p bb N O (B ++ [c]) ∧ Chg (SW base p bb N) w w' := by
  have c0 : w.cell? ⟨p, 0, none⟩ = some .nilIface := h.c.cell 0
  have hav := avail_any h
  have hpos : ¬ ((4096 - B.length : Nat) : Int) ≤ 0 := by omega
  have hbi : (B.length : Int) ≤ 4095 := by omega
  have hbl : (B.length : Int) < 4096 := by omega
  have hb0 : (0 : Int) ≤ (B.length : Int) := by omega
  have HA := Lib.hid (And.intro hav h)
  clear hav h
  go_enter Tryd.func80, Tryd.ntmps80
  go_wp2_with (go_at_call 86; refine HA.out.1.mono ?_; rintro e w1 ⟨rfl, hO⟩; have HO := Lib.hid hO; clear hO; refine Hid.out ?_)
  have h1 := HA.out.2.same HO.out
  obtain ⟨L, hL, hLB⟩ := h1.row
  have q1 : w1.cell? ⟨p, 1, none⟩ = some (.slice (some ⟨bb, 0, none⟩) 4096 4096) := h1.c.cell 1
  have q2 : w1.cell? ⟨p, 2, none⟩ = some (.int .i64 B.length) := h1.c.cell 2
  have gc := hL.cell hlt
  have gf := hL.free hlt
  have hput := Wd.put (h1.same (w' := w1.drew) ⟨rfl, rfl, rfl, rfl⟩) hlt c
  have hdf : ∀ v, (w1.setCell ⟨bb, B.length, none⟩ v).drew.cell? ⟨p, 2, none⟩ = some (.int .i64 B.length) := fun v => by
    show (w1.setCell ⟨bb, B.length, none⟩ v).cell? ⟨p, 2, none⟩ = _
    rw [World.cell?_setCell_other _ _ _ _ (by intro e; injection e with e _; exact h1.pbb e.symm)]; exact q2
  have hdf1 : ∀ v, (w1.setCell ⟨bb, B.length, none⟩ v).drew.cell? ⟨p, 1, none⟩ = some (.slice (some ⟨bb, 0, none⟩) 4096 4096) := fun v => by
    show (w1.setCell ⟨bb, B.length, none⟩ v).cell? ⟨p, 1, none⟩ = _
    rw [World.cell?_setCell_other _ _ _ _ (by intro e; injection e with e _; exact h1.pbb e.symm)]; exact q1
  have hff : ∀ v, (w1.setCell ⟨bb, B.length, none⟩ v).drew.frozen? ⟨p, 2, none⟩ = false := fun v => by
    show (w1.setCell ⟨bb, B.length, none⟩ v).frozen? ⟨p, 2, none⟩ = _
    rw [World.frozen?_setCell]; exact h1.c.free 2
  refine Lib.hid ?_
  have HP := Lib.hid hput
  clear h1 hL hLB hput
  go_wp2
  go_region_held3 (fun wx => wx.cell? ⟨p, 1, none⟩ = some (.slice (some ⟨bb, 0, none⟩) 4096 4096) ∧ wx.cell? ⟨p, 2, none⟩ = some (.int .i64 B.length))
    (first | go_keep | exact ⟨hdf1 _, hdf _⟩)
    (fail)
  go_wp2
  go_ret
  exact ⟨rfl, HP.out.1, (HO.out.chg _).drew.trans HP.out.2⟩
set_option maxRecDepth 200000 in
set_option maxHeartbeats 6400000 in
theorem writeByte_full (h : Wd w base b p bb N O B) (hB : B.length = 4096) (hlim : O.length + B.length ≤ 140737488355328) (c : UInt8) :
    Calls Tryd.prog 80 #[.pointer (some ⟨p, 0, none⟩), .int .u8 c.toNat] w fun e w' => e = .returned .nilIface ∧ Wd w' base b p bb N (O ++ B) [c] ∧ Chg (SW base p bb N) w w' := by
  have c0 : w.cell? ⟨p, 0, none⟩ = some .nilIface := h.c.cell 0
  have hav := avail_any h
  rw [show (4096 - B.length : Nat) = 0 by omega] at hav
  have HA := Lib.hid (And.intro hav h)
  have HF := Lib.hid (fun w1 (h1 : Wd w1 base b p bb N O B) => flush_any h1 hlim)
  clear hav h
  go_enter Tryd.func80, Tryd.ntmps80
  go_wp2_with (first
    | (go_at_call 86; refine HA.out.1.mono ?_; rintro e w1 ⟨rfl, hO⟩; have HO := Lib.hid hO; clear hO)
    | (go_at_call 42; refine (HF.out w1 (HA.out.2.same HO.out)).mono ?_; rintro e w2 ⟨rfl, h2, hC2⟩; have H2 := Lib.hid (And.intro h2 hC2); clear h2 hC2; refine Hid.out ?_))
  have h2 := H2.out.1
  obtain ⟨L, hL, hLB⟩ := h2.row
  have q1 : w2.cell? ⟨p, 1, none⟩ = some (.slice (some ⟨bb, 0, none⟩) 4096 4096) := h2.c.cell 1
  have q2 : w2.cell? ⟨p, 2, none⟩ = some (.int .i64 0) := h2.c.cell 2
  have gc := hL.cell (i := 0) (by decide)
  have gf := hL.free (i := 0) (by decide)
  have hput := Wd.put (h2.same (w' := w2.drew) ⟨rfl, rfl, rfl, rfl⟩) (by simp) c
  have hdf : ∀ v, (w2.setCell ⟨bb, 0, none⟩ v).drew.cell? ⟨p, 2, none⟩ = some (.int .i64 0) := fun v => by
    show (w2.setCell ⟨bb, 0, none⟩ v).cell? ⟨p, 2, none⟩ = _
    rw [World.cell?_setCell_other _ _ _ _ (by intro e; injection e with e _; exact h2.pbb e.symm)]; exact q2
  have hdf1 : ∀ v, (w2.setCell ⟨bb, 0, none⟩ v).drew.cell? ⟨p, 1, none⟩ = some (.slice (some ⟨bb, 0, none⟩) 4096 4096) := fun v => by
    show (w2.setCell ⟨bb, 0, none⟩ v).cell? ⟨p, 1, none⟩ = _
    rw [World.cell?_setCell_other _ _ _ _ (by intro e; injection e with e _; exact h2.pbb e.symm)]; exact q1
  have hff : ∀ v, (w2.setCell ⟨bb, 0, none⟩ v).drew.frozen? ⟨p, 2, none⟩ = false := fun v => by
    show (w2.setCell ⟨bb, 0, none⟩ v).frozen? ⟨p, 2, none⟩ = _
    rw [World.frozen?_setCell]; exact h2.c.free 2
  refine Lib.hid ?_
  have HP := Lib.hid hput
  clear h2 hL hLB hput
  go_wp2
  go_region_held3 (fun wx => wx.cell? ⟨p, 1, none⟩ = some (.slice (some ⟨bb, 0, none⟩) 4096 4096) ∧ wx.cell? ⟨p, 2, none⟩ = some (.int .i64 0))
    (first | go_keep | exact ⟨hdf1 _, hdf _⟩)
    (fail)
  go_wp2
  go_ret
  exact ⟨rfl, HP.out.1, ((HO.out.chg _).trans H2.out.2).drew.trans HP.out.2⟩
theorem writeByte_any (h : Wd w base b p bb N O B) (hlim : O.length + B.length ≤ 140737488355328) (c : UInt8) :
    Calls Tryd.prog 80 #[.pointer (some ⟨p, 0, none⟩), .int .u8 c.toNat] w fun e w' => e = .returned .nilIface ∧ (∃ O' B', O' ++ B' = O ++ B ++ [c] ∧ Wd w' base b p bb N O' B') ∧ Chg (SW base p bb N) w w' := by
  by_cases hlt : B.length < 4096
  · exact (writeByte_room h hlt c).mono fun e w' ⟨h1, h2, h3⟩ => ⟨h1, ⟨O, B ++ [c], by simp, h2⟩, h3⟩
  · exact (writeByte_full h (by have := h.le; omega) hlim c).mono fun e w' ⟨h1, h2, h3⟩ => ⟨h1, ⟨O ++ B, [c], by simp, h2⟩, h3⟩
end
end Go.Proofs.YteiiocibldpioaaDoor
