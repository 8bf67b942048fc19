/- The dot reader: its state, and what its Read leaves; the steps of a round, apart from the walk. -/
import Derived.Test.YteiiocibldpioaaDoorRdY
import Derived.Test.YteiiocibldpioaaDoorRdI
import Derived.Test.YteiiocibldpioaaDoorDots
namespace Go.Proofs.YteiiocibldpioaaDoor
open Go.RowKit

/-- A dot reader in block dr of the textproto.Reader in block t: state st, S is left. -/
structure Dt (K : Und) (base : Nat) (E : Nat → Addr) (gs : List Nat) (t p bb dr : Nat) (buf : Value) (st : Nat) (w : World) (S : List UInt8) : Prop where
  bt : base ≤ t
  bd : base ≤ dr
  td : t ≠ dr
  ts : ¬ Rd.S K p bb t
  ds : ¬ Rd.S K p bb dr
  tp : TpC w t p (.pointer (some ⟨dr, 0, none⟩)) buf
  blk : Blk w dr #[.pointer (some ⟨t, 0, none⟩), .int .i64 st] 109
  rs : Rs K base E gs p bb w S
section
variable {K : Und} {base t p bb dr : Nat} {E : Nat → Addr} {gs : List Nat} {buf : Value} {st : Nat} {w w' : World} {S S' : List UInt8}
/-- Behind a step of the bufio.Reader's own. -/
theorem Dt.step (h : Dt K base E gs t p bb dr buf st w S) (hc : Chg (Rd.S K p bb) w w') (hr : Rs K base E gs p bb w' S') : Dt K base E gs t p bb dr buf st w' S' :=
  ⟨h.bt, h.bd, h.td, h.ts, h.ds, h.tp.same (hc.block t h.tp.lt h.ts), h.blk.same (hc.block dr h.blk.lt h.ds), hr⟩
theorem Rs.blocks (h : Rs K base E gs p bb w S) (hb : ∀ k, Rd.S K p bb k → w'.heap[k]? = w.heap[k]?) (hB : Below base w w') : Rs K base E gs p bb w' S := by
  obtain ⟨B, U, r, z, lb, lr, h, e⟩ := h
  obtain ⟨L, hL, hLB⟩ := h.row
  exact ⟨B, U, r, z, lb, lr, ⟨h.lay, h.c.same (hb p (.inl rfl)), ⟨L, hL.same (hb bb (.inr (.inl rfl))), hLB⟩, h.le, K.same h.u (fun k hk => hb k (.inr (.inr hk))), h.end_, h.s.below hB⟩, e⟩
theorem Dt.setState (h : Dt K base E gs t p bb dr buf st w S) (st2 : Nat) : Dt K base E gs t p bb dr buf st2 (w.setCell ⟨dr, 1, none⟩ (.int .i64 st2)) S := by
  have N : ∀ k, k ≠ dr → (w.setCell ⟨dr, 1, none⟩ (.int .i64 st2)).heap[k]? = w.heap[k]? := fun k hk => Below.heap_setCell _ _ _ _ hk
  exact ⟨h.bt, h.bd, h.td, h.ts, h.ds, h.tp.same (N t h.td), h.blk.set 1 _, h.rs.blocks (fun k hk => N k (fun e => h.ds (e ▸ hk))) ((Below.refl _ _).setCell (p := ⟨dr, 1, none⟩) h.bd _)⟩
theorem Dt.setOther (h : Dt K base E gs t p bb dr buf st w S) {g : Nat} (hg : g ≠ t ∧ g ≠ dr ∧ ¬ Rd.S K p bb g) (hb : base ≤ g) (i : Nat) (v : Value) : Dt K base E gs t p bb dr buf st (w.setCell ⟨g, i, none⟩ v) S := by
  have N : ∀ k, k ≠ g → (w.setCell ⟨g, i, none⟩ v).heap[k]? = w.heap[k]? := fun k hk => Below.heap_setCell _ _ _ _ hk
  exact ⟨h.bt, h.bd, h.td, h.ts, h.ds, h.tp.same (N t (Ne.symm hg.1)), h.blk.same (N dr (Ne.symm hg.2.1)), h.rs.blocks (fun k hk => N k (fun e => hg.2.2 (e ▸ hk))) ((Below.refl _ _).setCell (p := ⟨g, i, none⟩) hb _)⟩
end
/-- What has been read so far: X, in the row from place o on. -/
structure DGot (K : Und) (base : Nat) (E : Nat → Addr) (gs : List Nat) (t p bb dr : Nat) (buf : Value) (st0 : Nat) (S0 : List UInt8) (g N o n : Nat) (L : List UInt8) (w : World) (X : List UInt8) (st : Nat) (S : List UInt8) (wr : World) : Prop where
  le : X.length ≤ n
  st5 : st ≤ 5
  dots : dots st0 S0 = (X ++ (dots st S).1, (dots st S).2)
  row : ∃ L', RowB wr g N L' ∧ (L'.drop o).take X.length = X ∧ L'.take o = L.take o
  chg : Chg (fun k => Rd.S K p bb k ∨ k = g ∨ k = dr ∨ k = t) w wr
/-- A step that gives nothing. -/
theorem DGot.silent {K : Und} {base t p bb dr st0 g N o n st st2 : Nat} {E : Nat → Addr} {gs : List Nat} {buf : Value} {S0 L X S S2 : List UInt8} {w wr w3 : World} (h : DGot K base E gs t p bb dr buf st0 S0 g N o n L w X st S wr)
    (hd : Go.Proofs.YteiiocibldpioaaDoor.dots st S = Go.Proofs.YteiiocibldpioaaDoor.dots st2 S2) (h5 : st2 ≤ 5) (hc : Chg (fun k => Rd.S K p bb k ∨ k = dr) wr w3) (hgs : ¬ Rd.S K p bb g) (hgd : g ≠ dr) (hgl : g < w.heap.size) : DGot K base E gs t p bb dr buf st0 S0 g N o n L w X st2 S2 w3 := by
  obtain ⟨L', h1, h2, h3⟩ := h.row
  refine ⟨h.le, h5, by rw [h.dots, hd], ⟨L', h1.same (hc.block g (Nat.lt_of_lt_of_le hgl h.chg.size) (fun e => by rcases e with e | e; exact hgs e; exact hgd e)), h2, h3⟩, h.chg.trans (hc.sub (fun k _ hk => by rcases hk with hk | hk; exact .inl hk; exact .inr (.inr (.inl hk))))⟩
/-- A step that gives a byte. -/
theorem DGot.emit {K : Und} {base t p bb dr st0 g N o n st st2 : Nat} {E : Nat → Addr} {gs : List Nat} {buf : Value} {S0 L X S S2 : List UInt8} {c : UInt8} {w wr w3 : World} (h : DGot K base E gs t p bb dr buf st0 S0 g N o n L w X st S wr)
    (hd : Go.Proofs.YteiiocibldpioaaDoor.dots st S = (c :: (Go.Proofs.YteiiocibldpioaaDoor.dots st2 S2).1, (Go.Proofs.YteiiocibldpioaaDoor.dots st2 S2).2)) (h5 : st2 ≤ 5) (hc : Chg (fun k => Rd.S K p bb k ∨ k = dr) wr w3) (hgs : ¬ Rd.S K p bb g) (hgd : g ≠ dr) (hlt : X.length < n) (hN : o + n ≤ N) :
    DGot K base E gs t p bb dr buf st0 S0 g N o n L w (X ++ [c]) st2 S2 (w3.setCell ⟨g, o + X.length, none⟩ (.int .u8 c.toNat)) := by
  obtain ⟨L', h1, h2, h3⟩ := h.row
  have h1' := h1.same (hc.block g (h1.lt (by omega)) (fun e => by rcases e with e | e; exact hgs e; exact hgd e))
  have hll := h1.len
  refine ⟨by simp; omega, h5, by rw [h.dots, hd]; simp, ⟨L'.set (o + X.length) c, h1'.set (by omega) c, ?_, ?_⟩, (h.chg.trans (hc.sub (fun k _ hk => by rcases hk with hk | hk; exact .inl hk; exact .inr (.inr (.inl hk))))).setCell (p := ⟨g, o + X.length, none⟩) (fun _ => .inr (.inl rfl)) _⟩
  · rw [List.length_append]
    show ((L'.set (o + X.length) c).drop o).take (X.length + 1) = X ++ [c]
    rw [List.drop_set, if_neg (by omega), show o + X.length - o = X.length by omega]
    have hl2 : X.length < (L'.drop o).length := by rw [List.length_drop]; omega
    rw [List.take_succ_eq_append_getElem (by rw [List.length_set]; exact hl2), List.take_set, h2, List.getElem_set_self]
    congr 1
    rw [List.set_eq_of_length_le (Nat.le_refl _)]
  · rw [List.take_set, h3]
    rw [List.set_eq_of_length_le (by rw [List.length_take]; omega)]
end Go.Proofs.YteiiocibldpioaaDoor
