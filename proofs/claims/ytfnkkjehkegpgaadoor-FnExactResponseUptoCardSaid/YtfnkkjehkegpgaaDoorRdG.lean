/- The textproto.Reader: its block, closeDot without a dot reader, readLineSlice and ReadLine, as one answer that depends on the stream alone. -/
import Derived.Test.YtfnkkjehkegpgaaDoorRdF
import Derived.Deep.LoopGhost
namespace Go.Proofs.YtfnkkjehkegpgaaDoor
open Go.RowKit

/-- What readLineSlice answers of a stream: whole lines, or all that is left; an error leaves nothing. -/
inductive TSays : List UInt8 → List UInt8 → Er → List UInt8 → Prop
  | done {S line rest : List UInt8} : LineSays S line false .nil rest → TSays S line .nil rest
  | err {S line rest : List UInt8} {er : Er} : LineSays S line false er rest → er ≠ .nil → TSays S [] er rest
  | step {S a S' b rest : List UInt8} : LineSays S a true .nil S' → TSays S' b .nil rest → TSays S (a ++ b) .nil rest
  | fall {S a S' b rest : List UInt8} {er : Er} : LineSays S a true .nil S' → TSays S' b er rest → er ≠ .nil → TSays S [] er rest

/-- The block of a textproto.Reader. -/
def TpC (w : World) (t p : Nat) (dot buf : Value) : Prop := Blk w t #[.pointer (some ⟨p, 0, none⟩), dot, buf] 76
section
variable {w : World} {t p : Nat} {dot buf : Value}
theorem TpC.c0 (h : TpC w t p dot buf) : w.cell? ⟨t, 0, none⟩ = some (.pointer (some ⟨p, 0, none⟩)) := Blk.cell h 0
theorem TpC.c1 (h : TpC w t p dot buf) : w.cell? ⟨t, 1, none⟩ = some dot := Blk.cell h 1
theorem TpC.c2 (h : TpC w t p dot buf) : w.cell? ⟨t, 2, none⟩ = some buf := Blk.cell h 2
theorem TpC.f (h : TpC w t p dot buf) (i : Nat) : w.frozen? ⟨t, i, none⟩ = false := Blk.free h i
theorem TpC.lt (h : TpC w t p dot buf) : t < w.heap.size := Blk.lt h
theorem TpC.same {w' : World} (h : TpC w t p dot buf) (hb : w'.heap[t]? = w.heap[t]?) : TpC w' t p dot buf := Blk.same h hb
end
theorem closeDot_nil {w : World} {t p : Nat} {buf : Value} (h : TpC w t p (.pointer none) buf) :
    Calls Tryd.prog 45 #[.pointer (some ⟨t, 0, none⟩)] w fun e w' => e = .returned (.tuple #[]) ∧ w = w' := by
  have c1 := h.c1
  go_enter Tryd.func45, Tryd.ntmps45
  go_wp2
  ((try simp only [Exit.inBlock, Exit.then]); refine bodyPost_ret (results_none rfl _ _ _) rfl ?_)
  exact ⟨rfl, rfl⟩
theorem OB.chg {w w' : World} {base : Nat} {v : Value} {l : List UInt8} {S : Nat → Prop} (h : OB w base v l) (hc : Chg S w w') (hS : ∀ k, S k → k < base) : OB w' base v l := by
  obtain ⟨h1, h2⟩ := h
  refine ⟨h1, ?_⟩
  rcases h2 with ⟨rfl, h0⟩ | ⟨g, cap, cur, rfl, hbg, hg, r⟩
  · exact .inl ⟨rfl, h0⟩
  · exact .inr ⟨g, cap, cur, rfl, hbg, by rw [hc.block g (Array.getElem?_eq_some_iff.1 hg).1 (fun hs => by have := hS g hs; omega)]; exact hg, r⟩
theorem Rd.below {K : Und} {base p bb : Nat} {E : Nat → Addr} {gs : List Nat} {w w' : World} {B U : List UInt8} {r : Nat} {z : Bool} {lb lr : Int} (h : Rd K base E gs p bb w B U r z lb lr) {N : Nat} (hb : Below N w w')
    (hN : ∀ k, Rd.S K p bb k → k < N) : Rd K base E gs p bb w' B U r z lb lr := by
  obtain ⟨L, hL, hB⟩ := h.row
  have hp := hN p (.inl rfl)
  have hlay := h.lay
  have hbN : base ≤ N := by have := hlay.bp; omega
  exact ⟨hlay, h.c.same (hb.block p hp), ⟨L, hL.same (hb.block bb (hN bb (.inr (.inl rfl)))), hB⟩, h.le, K.same h.u (fun k hk => hb.block k (hN k (.inr (.inr hk)))), h.end_, h.s.below (hb.mono hbN)⟩
theorem Rd.S_lt {K : Und} {base p bb : Nat} {E : Nat → Addr} {gs : List Nat} {w : World} {B U : List UInt8} {r : Nat} {z : Bool} {lb lr : Int} (h : Rd K base E gs p bb w B U r z lb lr) : ∀ k, Rd.S K p bb k → k < w.heap.size := by
  intro k hk
  rcases hk with rfl | rfl | hk
  · exact h.c.lt
  · obtain ⟨L, hL, _⟩ := h.row
    exact hL.lt (by omega)
  · exact K.lt h.u k hk
/-- What readLineSlice leaves: a slice that reads as the line (nil behind an error), the stream's rest. -/
def TEnd (K : Und) (base : Nat) (E : Nat → Addr) (gs : List Nat) (t p bb : Nat) (buf : Value) (S : List UInt8) (w : World) (e : Ending) (w' : World) : Prop :=
  ∃ (A : Option Addr) (c : Nat) (line : List UInt8) (er : Er) (B U : List UInt8) (r : Nat) (z : Bool) (lb lr : Int), e = .returned (.tuple #[.slice A line.length c, er.val E]) ∧ TSays S line er (B ++ U) ∧
    line.length ≤ c ∧ c ≤ 9223372036854775807 ∧ RB w' A line ∧ ((A = none → c = 0) ∧ ∀ a, A = some a → a.spot = none ∧ (Lies bb r a line.length ∨ w.heap.size ≤ a.block)) ∧ TpC w' t p (.pointer none) buf ∧ Rd K base E gs p bb w' B U r z lb lr ∧ Chg (Rd.S K p bb) w w'
end Go.Proofs.YtfnkkjehkegpgaaDoor
