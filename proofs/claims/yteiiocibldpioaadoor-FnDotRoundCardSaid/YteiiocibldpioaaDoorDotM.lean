/- The walk of impl.DotLines. -/
import Derived.Test.YteiiocibldpioaaDoorDotL
import Derived.Test.YteiiocibldpioaaDoorRdU
namespace Go.Proofs.YteiiocibldpioaaDoor
open Go.RowKit

theorem SL.chg {w w' : World} {A : Option Addr} {ls : List (List UInt8)} {S : Nat → Prop} (h : SL w A ls) (hc : Chg S w w') (hS : ∀ g o, A = some ⟨g, o, none⟩ → ls ≠ [] → ¬ S g) : SL w' A ls := by
  intro hne
  obtain ⟨g, o, he, hx⟩ := h hne
  exact ⟨g, o, he, fun i s hs => (World.cell?_of_block (w := w) (a := ⟨g, o + i, none⟩) (hc.block g (h.lt g o he hne) (hS g o he hne))).trans (hx i s hs)⟩
/-- What impl.DotLines leaves. -/
def DotLinesEnd (S : List UInt8) (w : World) (e : Ending) (w' : World) : Prop :=
  ∃ (ls : List (List UInt8)) (A1 : Option Addr) (c1 : Nat) (er : Er) (R : List UInt8) (A2 : Option Addr) (c2 : Nat), e = .returned (.tuple #[.slice A1 ls.length c1, .int .i64 er.num, .slice A2 R.length c2]) ∧ DotLinesSays S ls er R ∧ SL w' A1 ls ∧ ls.length ≤ S.length ∧ RB w' A2 R ∧ Below w.heap.size w w'
theorem TSays.rest_le {S l R : List UInt8} {er : Er} (h : TSays S l er R) : R.length ≤ S.length := by
  induction h with
  | done h1 => have := h1.le; omega
  | err h1 _ => have := h1.le; omega
  | step h1 _ ih => have := h1.le; omega
  | fall h1 _ _ ih => have := h1.le; omega
theorem DotLinesSays.rest_le {S R : List UInt8} {ls : List (List UInt8)} {er : Er} (h : DotLinesSays S ls er R) : R.length ≤ S.length := by
  induction h with
  | cut h1 _ => exact h1.rest_le
  | stop h1 => exact h1.rest_le
  | go h1 _ _ ih => have := h1.rest_le; omega
set_option maxRecDepth 200000 in
set_option maxHeartbeats 1000000 in
theorem implDotLines_any {w : World} {E : Nat → Addr} {gs : List Nat} (hs : Sens w E gs) (hg : 1 ∈ gs) (hk : 2 ∈ gs) (hf : 5 ∈ gs) {A : Option Addr} {n c : Nat} {S : List UInt8} (hn : n = S.length) (hr : RB w A S) (hS : S.length ≤ 4398046511104) :
    Calls Tryd.prog 31 #[.slice A n c] w (DotLinesEnd S w) := by
  have hmk := reader_any (c := c) hs hn hr (by omega)
  have hrd := fun (q sb : Nat) (base t p bb : Nat) (buf : Value) (w : World) (h : Tp (KB q sb) base E gs t p bb buf w S) (hqs : sb ≠ q) => readDotLines_any (fillB q sb hqs) h hg hk hf hS
  have H := Lib.hid hmk
  have HC := Lib.hid hrd
  clear hmk hrd hr hs hn
  go_enter Tryd.func31, Tryd.ntmps31
  go_wp2_with (first
    | (go_at_call 45; refine H.out.mono ?_; rintro e w1 ⟨q, sb, t, p, bb, rfl, hqs, hT1, hb1⟩; have H1 := Lib.hid (And.intro hqs (And.intro hT1 hb1)); clear hqs hT1 hb1)
    | (go_at_call 53; refine (HC.out _ _ _ _ _ _ _ _ H1.out.2.1 H1.out.1).mono ?_; rintro e w2 ⟨ls, A2, c2, er, R, rfl, hsay, hin, hsl, hle, hT2, hb2, hpl⟩; have H2 := Lib.hid (And.intro hsay (And.intro hin (And.intro hsl (And.intro hle (And.intro hT2 (And.intro hb2 hpl)))))); clear hsay hin hsl hle hT2 hb2 hpl)
    | (go_at_call 47; refine (state_any _ H2.out.2.2.2.2.1.sens.s hg hk er H2.out.2.1).mono ?_; rintro e w3 ⟨rfl, rfl⟩)
    | (go_at_call 49; refine (rest_chg H1.out.1 H2.out.2.2.2.2.1 hg (by have := H2.out.1.rest_le; omega)).mono ?_; rintro e w4 ⟨⟨A4, c4, rfl, hc4, hc4', hrb4⟩, hC4⟩; have H4 := Lib.hid (And.intro hrb4 hC4); clear hc4 hc4' hrb4 hC4))
  go_ret3
  obtain ⟨hsay, hin, hsl, hle, hT2, hb2, hpl⟩ := H2.out
  obtain ⟨hrb4, hC4⟩ := H4.out
  obtain ⟨_, hT1, hb1⟩ := H1.out
  refine ⟨ls, A2, c2, er, R, A4, c4, rfl, hsay, hsl.chg hC4 (fun g o e _ => hpl g o e), hle, hrb4, (hb1.trans hb2).trans (hT2.frame hC4)⟩
end Go.Proofs.YteiiocibldpioaaDoor
