/- A textproto.Reader as a thing with bytes that are left; the walk of its ReadLine. -/
import Derived.Test.YtfnkkjehkegpgaaDoorRdH
import Derived.Test.YtfnkkjehkegpgaaDoorLn
namespace Go.Proofs.YtfnkkjehkegpgaaDoor
open Go.RowKit

/-- A textproto.Reader in block t over a bufio.Reader in block p: S is left, no dot reader is open. -/
def Tp (K : Und) (base : Nat) (E : Nat → Addr) (gs : List Nat) (t p bb : Nat) (buf : Value) (w : World) (S : List UInt8) : Prop :=
  base ≤ t ∧ ¬ Rd.S K p bb t ∧ TpC w t p (.pointer none) buf ∧ ∃ (B U : List UInt8) (r : Nat) (z : Bool) (lb lr : Int), Rd K base E gs p bb w B U r z lb lr ∧ B ++ U = S
section
variable {K : Und} {base t p bb : Nat} {E : Nat → Addr} {gs : List Nat} {buf : Value} {w w' : World} {S : List UInt8}
theorem Tp.size (h : Tp K base E gs t p bb buf w S) : base ≤ w.heap.size := by
  obtain ⟨_, _, _, _, _, _, _, _, _, h, _⟩ := h
  exact h.size
theorem Tp.lay (h : Tp K base E gs t p bb buf w S) : Lay K base p bb := by
  obtain ⟨_, _, _, _, _, _, _, _, _, h, _⟩ := h
  exact h.lay
theorem Tp.sens (h : Tp K base E gs t p bb buf w S) : SensB base w E gs := by
  obtain ⟨_, _, _, _, _, _, _, _, _, h, _⟩ := h
  exact h.s
theorem Tp.below (h : Tp K base E gs t p bb buf w S) (hb : Below w.heap.size w w') : Tp K base E gs t p bb buf w' S := by
  obtain ⟨h1, h2, h3, B, U, r, z, lb, lr, h4, h5⟩ := h
  exact ⟨h1, h2, h3.same (hb.block t h3.lt), B, U, r, z, lb, lr, h4.below hb h4.S_lt, h5⟩
theorem Tp.only (h : Tp K base E gs t p bb buf w S) (ho : Only w w') : Tp K base E gs t p bb buf w' S := by
  obtain ⟨h1, h2, h3, B, U, r, z, lb, lr, h4, h5⟩ := h
  exact ⟨h1, h2, h3.same (ho.at_ t), B, U, r, z, lb, lr, h4.only ho, h5⟩
/-- What a call leaves that turns the reader's blocks alone. -/
theorem Tp.frame (h : Tp K base E gs t p bb buf w S) (hc : Chg (Rd.S K p bb) w w') : Below base w w' := h.lay.below hc h.size
end
/-- What ReadLine leaves. -/
def TLine (K : Und) (base : Nat) (E : Nat → Addr) (gs : List Nat) (t p bb : Nat) (buf : Value) (S : List UInt8) (w : World) (e : Ending) (w' : World) : Prop :=
  ∃ (l : List UInt8) (er : Er) (S' : List UInt8), e = .returned (.tuple #[.string ⟨l.toArray⟩, er.val E]) ∧ TSays S l er S' ∧ Tp K base E gs t p bb buf w' S' ∧ Chg (Rd.S K p bb) w w'
set_option maxRecDepth 200000 in
theorem tReadLine {K : Und} (hK : FillOK K) {base t p bb : Nat} {E : Nat → Addr} {gs : List Nat} {w : World} {S : List UInt8} {buf : Value} (h : Tp K base E gs t p bb buf w S) (hg : 0 ∈ gs) (hf : 4 ∈ gs) (hS : S.length ≤ 140737488355328) :
    Calls Tryd.prog 31 #[.pointer (some ⟨t, 0, none⟩)] w (TLine K base E gs t p bb buf S w) := by
  obtain ⟨hbt, hts, hT, B, U, r, z, lb, lr, hR, rfl⟩ := h
  have hrl := readLineSlice_any hK hR hg hf hT hts (-1) (.inl (by decide)) hS
  have H := Lib.hid hrl
  clear hrl hT hR
  go_enter Tryd.func31, Tryd.ntmps31
  go_wp2_with (first
    | (go_at_call 39; refine H.out.mono ?_; rintro e w1 ⟨A, c, line, er, B1, U1, r1, z1, lb1, lr1, rfl, hsay, hlc, hc, hrb, hA, hT1, hR1, hC1⟩)
    | (with_reducible refine at_toString ?_; refine wpList_toString rfl _ rfl A line.length c line rfl rfl hrb ?_))
  go_ret2
  exact ⟨line, er, B1 ++ U1, rfl, hsay, ⟨hbt, hts, hT1, B1, U1, r1, z1, lb1, lr1, hR1, rfl⟩, hC1⟩
/-- .. of a stream with a LF: the line ahead of it. -/
theorem tReadLine_line {K : Und} (hK : FillOK K) {base t p bb : Nat} {E : Nat → Addr} {gs : List Nat} {w : World} {S a rest : List UInt8} {buf : Value} (h : Tp K base E gs t p bb buf w S) (hg : 0 ∈ gs) (hf : 4 ∈ gs) (hS : S.length ≤ 140737488355328)
    (hSe : S = a ++ 10 :: rest) (ha : 10 ∉ a) :
    Calls Tryd.prog 31 #[.pointer (some ⟨t, 0, none⟩)] w fun e w' => e = .returned (.tuple #[.string ⟨(dropCR a).toArray⟩, .nilIface]) ∧ Tp K base E gs t p bb buf w' rest ∧ Chg (Rd.S K p bb) w w' := by
  refine (tReadLine hK h hg hf hS).mono fun e w' hh => ?_
  obtain ⟨l, er, S', he, hsay, h1, h2⟩ := hh
  obtain ⟨h3, h4, h5⟩ := hsay.line hSe ha
  subst h3; subst h4; subst h5
  exact ⟨he, h1, h2⟩
end Go.Proofs.YtfnkkjehkegpgaaDoor
