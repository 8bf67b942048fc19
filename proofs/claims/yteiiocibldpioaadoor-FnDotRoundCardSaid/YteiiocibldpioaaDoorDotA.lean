/- The walks of ReadDotBytes and of impl.Dot. -/
import Derived.Test.YteiiocibldpioaaDoorRdAll
import Derived.Test.YteiiocibldpioaaDoorSpecM
namespace Go.Proofs.YteiiocibldpioaaDoor
open Go.RowKit

/-- What ReadDotBytes says of a stream. -/
def DotBytesSays (S X : List UInt8) (er : Er) (R : List UInt8) : Prop := (er = .nil ∧ dots 0 S = (X, true, R)) ∨ (er = .sent 2 ∧ R = [] ∧ dots 0 S = (X, false, []))
theorem DotBytesSays.rest_le {S X R : List UInt8} {er : Er} (h : DotBytesSays S X er R) : R.length ≤ S.length := by
  have h1 := (dots_rest S 0).length_le
  rcases h with ⟨_, h⟩ | ⟨_, rfl, _⟩
  · rw [h] at h1; exact h1
  · exact Nat.zero_le _
theorem DotBytesSays.out_le {S X R : List UInt8} {er : Er} (h : DotBytesSays S X er R) : X.length ≤ 2 * S.length := by
  have h1 := dots_out S 0
  rcases h with ⟨_, h⟩ | ⟨_, _, h⟩ <;> (rw [h] at h1; exact h1)
theorem DotBytesSays.in_ {S X R : List UInt8} {er : Er} {gs : List Nat} (h : DotBytesSays S X er R) (hk : 2 ∈ gs) : er.in gs := by
  rcases h with ⟨rfl, _⟩ | ⟨rfl, _, _⟩
  · trivial
  · exact hk
/-- What ReadDotBytes leaves. -/
def DotBytesEnd (K : Und) (base : Nat) (E : Nat → Addr) (gs : List Nat) (t p bb : Nat) (buf : Value) (S : List UInt8) (w : World) (e : Ending) (w' : World) : Prop :=
  ∃ (X : List UInt8) (A : Option Addr) (c : Nat) (er : Er) (R : List UInt8), e = .returned (.tuple #[.slice A X.length c, er.val E]) ∧ DotBytesSays S X er R ∧ RB w' A X ∧ (∀ g o, A = some ⟨g, o, none⟩ → w.heap.size ≤ g) ∧ Tp K base E gs t p bb buf w' R ∧ Below base w w'
theorem readDotBytes_any {K : Und} (hK : FillOK K) {base t p bb : Nat} {E : Nat → Addr} {gs : List Nat} {buf : Value} {w : World} {S : List UInt8} (h : Tp K base E gs t p bb buf w S) (hg : 1 ∈ gs) (hk : 2 ∈ gs) (hS : S.length ≤ 4398046511104) :
    Calls Tryd.prog 48 #[.pointer (some ⟨t, 0, none⟩)] w (DotBytesEnd K base E gs t p bb buf S w) := by
  have hd := dotReader_any h
  have ht := h.1
  have hsz := h.size
  have H := Lib.hid (And.intro hd (And.intro ht hsz))
  have HA := Lib.hid (fun (w1 : World) (dr : Nat) (h1 : Dt K base E gs t p bb dr buf 0 w1 S) => readAll_any hK h1 hg hk hS)
  clear h hd ht hsz
  go_enter Tryd.func48, Tryd.ntmps48
  go_wp2_with (first
    | (go_at_call 46; refine H.out.1.mono ?_; rintro e w1 ⟨rfl, hD, hC⟩; have H1 := Lib.hid (And.intro hD hC); clear hD hC)
    | (go_at_call 62; refine (HA.out _ _ H1.out.1).mono ?_; rintro e w2 ⟨X, A, c, st', er, S', rfl, hrb, hA, hdt, hcs, hb⟩; have H2 := Lib.hid (And.intro hrb (And.intro hA (And.intro hdt (And.intro hcs hb)))); clear hrb hA hdt hcs hb))
  go_ret2
  obtain ⟨hrb, hA, hdt, hcs, hb⟩ := H2.out
  obtain ⟨_, ht, hsz⟩ := H.out
  have hC := H1.out.2
  have hb1 : Below base w w1 := hC.below (fun k hk e => by omega) hsz
  have hA2 : ∀ g o, A = some ⟨g, o, none⟩ → w.heap.size ≤ g := fun g o e => Nat.le_trans hC.size (hA g o e)
  rcases hcs with ⟨rfl, rfl, hT⟩ | ⟨rfl, rfl, h5, hT⟩
  · rw [dots_end, List.append_nil] at hdt
    exact ⟨X, A, c, .nil, S', rfl, .inl ⟨rfl, hdt⟩, hrb, hA2, hT, hb1.trans hb⟩
  · have h6 : dots st' [] = ([], false, []) := by simp [dots, h5]
    rw [h6, List.append_nil] at hdt
    exact ⟨X, A, c, .sent 2, [], rfl, .inr ⟨rfl, rfl, hdt⟩, hrb, hA2, hT, hb1.trans hb⟩
/-- What impl.Dot leaves. -/
def DotEnd (S : List UInt8) (w : World) (e : Ending) (w' : World) : Prop :=
  ∃ (X : List UInt8) (A1 : Option Addr) (c1 : Nat) (er : Er) (R : List UInt8) (A2 : Option Addr) (c2 : Nat), e = .returned (.tuple #[.slice A1 X.length c1, .int .i64 er.num, .slice A2 R.length c2]) ∧ DotBytesSays S X er R ∧ RB w' A1 X ∧ RB w' A2 R ∧ Below w.heap.size w w'
set_option maxRecDepth 200000 in
set_option maxHeartbeats 1000000 in
theorem implDot_any {w : World} {E : Nat → Addr} {gs : List Nat} (hs : Sens w E gs) (hg : 1 ∈ gs) (hk : 2 ∈ gs) {A : Option Addr} {n c : Nat} {S : List UInt8} (hn : n = S.length) (hr : RB w A S) (hS : S.length ≤ 4398046511104) :
    Calls Tryd.prog 26 #[.slice A n c] w (DotEnd S w) := by
  have hmk := reader_any (c := c) hs hn hr (by omega)
  have hrd := fun (q sb : Nat) (base t p bb : Nat) (buf : Value) (w : World) (h : Tp (KB q sb) base E gs t p bb buf w S) (hqs : sb ≠ q) => readDotBytes_any (fillB q sb hqs) h hg hk hS
  have H := Lib.hid hmk
  have HC := Lib.hid hrd
  clear hmk hrd hr hs hn
  go_enter Tryd.func26, Tryd.ntmps26
  go_wp2_with (first
    | (go_at_call 45; refine H.out.mono ?_; rintro e w1 ⟨q, sb, t, p, bb, rfl, hqs, hT1, hb1⟩; have H1 := Lib.hid (And.intro hqs (And.intro hT1 hb1)); clear hqs hT1 hb1)
    | (go_at_call 48; refine (HC.out _ _ _ _ _ _ _ _ H1.out.2.1 H1.out.1).mono ?_; rintro e w2 ⟨X, A2, c2, er, R, rfl, hsay, hrb, hpl, hT2, hb2⟩; have H2 := Lib.hid (And.intro hsay (And.intro hrb (And.intro hpl (And.intro hT2 hb2)))); clear hsay hrb hpl hT2 hb2)
    | (go_at_call 47; refine (state_any _ H2.out.2.2.2.1.sens.s hg hk er (H2.out.1.in_ hk)).mono ?_; rintro e w3 ⟨rfl, rfl⟩)
    | (go_at_call 49; refine (rest_chg H1.out.1 H2.out.2.2.2.1 hg (by have := H2.out.1.rest_le; omega)).mono ?_; rintro e w4 ⟨⟨A4, c4, rfl, hc4, hc4', hrb4⟩, hC4⟩; have H4 := Lib.hid (And.intro hrb4 hC4); clear hc4 hc4' hrb4 hC4))
  go_ret3
  obtain ⟨hsay, hrb, hpl, hT2, hb2⟩ := H2.out
  obtain ⟨hrb4, hC4⟩ := H4.out
  obtain ⟨_, hT1, hb1⟩ := H1.out
  exact ⟨X, A2, c2, er, R, A4, c4, rfl, hsay, hrb.same (fun g o e hl => hC4.block g hl (fun hs => by have := hT1.S_lt g hs; have := hpl g o e; omega)), hrb4, (hb1.trans hb2).trans (hT2.frame hC4)⟩
end Go.Proofs.YteiiocibldpioaaDoor
