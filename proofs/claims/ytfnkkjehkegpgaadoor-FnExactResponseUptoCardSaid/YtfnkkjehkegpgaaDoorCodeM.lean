/- The walk of impl.CodeLine, where the bytes begin with a line. -/
import Derived.Test.YtfnkkjehkegpgaaDoorCodeL
import Derived.Test.YtfnkkjehkegpgaaDoorRdU
namespace Go.Proofs.YtfnkkjehkegpgaaDoor
open Go.RowKit

/-- What impl.CodeLine leaves: the code, the message, the kind of the error, what is not read. -/
def CodeLineEnd (r : Int × List UInt8 × Int) (rest : List UInt8) (w : World) (e : Ending) (w' : World) : Prop :=
  ∃ A c, e = .returned (.tuple #[.int .i64 r.1, .string ⟨r.2.1.toArray⟩, .int .i64 r.2.2, .slice A rest.length c]) ∧ rest.length ≤ c ∧ c ≤ 9223372036854775807 ∧ RB w' A rest ∧ Below w.heap.size w w'
set_option maxRecDepth 200000 in
theorem implCodeLine_line {w : World} {E : Nat → Addr} {gs : List Nat} (hs : Sens w E gs) (hg : 0 ∈ gs) (hk : 1 ∈ gs) (hf : 4 ∈ gs) (hx : 5 ∈ gs) {A : Option Addr} {n c : Nat} {S a rest : List UInt8} (hn : n = S.length) (hr : RB w A S) (hS : S.length ≤ 140737488355328)
    (hSe : S = a ++ 10 :: rest) (ha : 10 ∉ a) (x : Int) :
    Calls Tryd.prog 18 #[.slice A n c, .int .i64 x] w (CodeLineEnd (oneL (parseL x (dropCR a))) rest w) := by
  have hSr : rest.length ≤ 140737488355328 := by rw [hSe] at hS; simp at hS; omega
  have hmk := reader_any (c := c) hs hn hr hS
  have hrc := fun (q sb : Nat) (base t p bb : Nat) (buf : Value) (w : World) (h : Tp (KB q sb) base E gs t p bb buf w S) (hqs : sb ≠ q) => readCodeLineT (fillB q sb hqs) h hg hf hx hS hSe ha x
  generalize oneL (parseL x (dropCR a)) = r at hrc ⊢
  obtain ⟨nn, m, kk⟩ := r
  have H := Lib.hid (And.intro hmk hSr)
  have HC := Lib.hid hrc
  clear hmk hrc hSe hr hs hSr hn
  go_enter Tryd.func18, Tryd.ntmps18
  go_wp2_with (first
    | (go_at_call 20; refine H.out.1.mono ?_; rintro e w1 ⟨q, sb, t, p, bb, rfl, hqs, hT1, hb1⟩; have H1 := Lib.hid (And.intro hqs (And.intro hT1 hb1)); clear hqs hT1 hb1)
    | (go_at_call 25; refine (HC.out _ _ _ _ _ _ _ _ H1.out.2.1 H1.out.1).mono ?_; rintro e w2 ⟨⟨er, hin, hnum, rfl⟩, hT2, hC2⟩; have H2 := Lib.hid (And.intro hin (And.intro hnum (And.intro hT2 hC2))); clear hin hnum hT2 hC2)
    | (go_at_call 22; refine (state_any _ H2.out.2.2.1.sens.s hg hk er H2.out.1).mono ?_; rintro e w3 ⟨rfl, hw3⟩; have H3 := Lib.hid hw3; clear hw3; rw [H2.out.2.1])
    | (go_at_call 23; refine (rest_any H1.out.1 (by rw [← H3.out]; exact H2.out.2.2.1) hg H.out.2).mono ?_; rintro e w4 ⟨⟨A4, c4, rfl, hc4, hc4', hrb4⟩, hb4⟩; have H4 := Lib.hid (And.intro hc4 (And.intro hc4' (And.intro hrb4 hb4))); clear hc4 hc4' hrb4 hb4))
  ((try simp only [Exit.inBlock, Exit.then]); refine bodyPost_ret (results_tmp4 rfl _ _ _) rfl ?_)
  obtain ⟨h1, h2, h3, h4⟩ := H4.out
  obtain ⟨_, hT1, hb1⟩ := H1.out
  have hb2 := hT1.frame H2.out.2.2.2
  refine ⟨A4, c4, rfl, h1, h2, h3, (hb1.trans hb2).trans ?_⟩
  rw [← H3.out] at h4
  exact h4
end Go.Proofs.YtfnkkjehkegpgaaDoor
