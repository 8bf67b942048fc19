/- What the calls of a header give: the plain machine, and the state of impl.Run. -/
import Derived.Test.YtaoedejenjfhoaaHdrV
import Derived.Test.YtaoedejenjfhoaaOutV
namespace Go.Proofs.Ytaoedejenjfhoaa
open Go.RowKit

/-- A step: the call's name, the key, the value. -/
structure StepR where
  c : List UInt8
  k : List UInt8
  v : List UInt8
def addB : List UInt8 := [65, 100, 100]
def setB : List UInt8 := [83, 101, 116]
def delB : List UInt8 := [68, 101, 108]
def getB : List UInt8 := [71, 101, 116]
def valuesB : List UInt8 := [86, 97, 108, 117, 101, 115]
abbrev Hdr := List UInt8 → List (List UInt8)
def stepM (s : Hdr × List (List (List UInt8))) (t : StepR) : Hdr × List (List (List UInt8)) :=
  if t.c = addB then (updF s.1 (canonOf t.k) (s.1 (canonOf t.k) ++ [t.v]), s.2)
  else if t.c = setB then (updF s.1 (canonOf t.k) [t.v], s.2)
  else if t.c = delB then (updF s.1 (canonOf t.k) [], s.2)
  else if t.c = getB then (s.1, s.2 ++ [[firstOf (s.1 (canonOf t.k))]])
  else if t.c = valuesB then (s.1, s.2 ++ [s.1 (canonOf t.k)])
  else s
def runM (ts : List StepR) : Hdr × List (List (List UInt8)) := ts.foldl stepM (fun _ => [], [])
theorem runM_snoc (ts : List StepR) (k : Nat) (h : k < ts.length) : runM (ts.take (k + 1)) = stepM (runM (ts.take k)) ts[k] := by
  unfold runM
  rw [List.take_succ_eq_append_getElem h, List.foldl_append]
  rfl
theorem stepM_len (s : Hdr × List (List (List UInt8))) (t : StepR) : (stepM s t).2.length ≤ s.2.length + 1 := by
  unfold stepM
  repeat' split
  all_goals simp
theorem runM_len (ts : List StepR) (k : Nat) (h : k ≤ ts.length) : (runM (ts.take k)).2.length ≤ k := by
  induction k with
  | zero => simp [runM]
  | succ k ih =>
    rw [runM_snoc ts k h]
    have := stepM_len (runM (ts.take k)) ts[k]
    have := ih (by omega)
    omega
/-- A slice's address under which steps lie. -/
def TL (w : World) (A : Option Addr) (ts : List StepR) : Prop :=
  ts ≠ [] → ∃ g o, A = some ⟨g, o, none⟩ ∧ ∀ i t, ts[i]? = some t → w.cell? ⟨g, o + i * 3, none⟩ = some (.string ⟨t.c.toArray⟩) ∧ w.cell? ⟨g, o + i * 3 + 1, none⟩ = some (.string ⟨t.k.toArray⟩) ∧ w.cell? ⟨g, o + i * 3 + 2, none⟩ = some (.string ⟨t.v.toArray⟩)
theorem TL.nil (w : World) (A : Option Addr) : TL w A [] := fun h => absurd rfl h
theorem TL.below {w w' : World} {A : Option Addr} {ts : List StepR} (h : TL w A ts) (hb : Below w.heap.size w w') : TL w' A ts := by
  intro hne
  obtain ⟨g, o, he, hx⟩ := h hne
  exact ⟨g, o, he, fun i t ht => by
    obtain ⟨h0, h1, h2⟩ := hx i t ht
    exact ⟨(hb.cell (p := ⟨g, o + i * 3, none⟩) (World.block_lt_of_cell? _ _ h0)).trans h0, (hb.cell (p := ⟨g, o + i * 3 + 1, none⟩) (World.block_lt_of_cell? _ _ h1)).trans h1, (hb.cell (p := ⟨g, o + i * 3 + 2, none⟩) (World.block_lt_of_cell? _ _ h2)).trans h2⟩⟩
/-- impl.Run's state: the header, and what has been given. -/
structure RunS (w : World) (base b n : Nat) (N : Nat → Prop) (val : List UInt8 → Value) (vs : List Value) (v : Value) (s : Hdr × List (List (List UInt8))) : Prop where
  hdr : HdrV w base b n N val s.1
  lt : ∀ g, N g → g < w.heap.size
  outs : Outs w base N v vs s.2
theorem RunS.below {w w' : World} {base b n : Nat} {N : Nat → Prop} {val : List UInt8 → Value} {vs : List Value} {v : Value} {s : Hdr × List (List (List UInt8))} (h : RunS w base b n N val vs v s) (hb : Below w.heap.size w w') : RunS w' base b n N val vs v s :=
  ⟨h.hdr.below hb, fun g hg => Nat.lt_of_lt_of_le (h.lt g hg) hb.size, h.outs.of fun g hg hl => ⟨hb.block g hl, hg⟩⟩
theorem RunS.turn {w w' : World} {base b n m : Nat} {N : Nat → Prop} {val : List UInt8 → Value} {vs : List Value} {v : Value} {s : Hdr × List (List (List UInt8))} {f : Hdr} (h : RunS w base b n N val vs v s) (hd : HdrEnd base b m N f w w') : ∃ val', RunS w' base b m N val' vs v (f, s.2) := by
  obtain ⟨⟨val', hh⟩, hk⟩ := hd
  exact ⟨val', hh, fun g hg => Nat.lt_of_lt_of_le (h.lt g hg) hk.size, h.outs.of fun g hg hl => ⟨hk.block g hl (.inl hg), hg⟩⟩
theorem RunS.push {w w3 w4 : World} {base b n c0 c4 : Nat} {N : Nat → Prop} {A0 A4 : Option Addr} {val : List UInt8 → Value} {vs : List Value} {u : Value} {l : List (List UInt8)} {ty : TypeId} {s : Hdr × List (List (List UInt8))} (h : RunS w base b n N val vs (.slice A0 vs.length c0) s)
    (hb : Below w.heap.size w w3) (hu : SVal w3 (fun g => w.heap.size ≤ g) u l) (hap : AppendedV (w3.alloc (.cells #[u] ty)) w4 base (.slice A0 vs.length c0) A4 (vs.length + 1) c4 (vs ++ [u])) :
    ∃ N', RunS w4 base b n N' val (vs ++ [u]) (.slice A4 (vs.length + 1) c4) (s.1, s.2 ++ [l]) := by
  have hsz : w3.heap.size < w4.heap.size := by have := hap.grown.size; rw [World.size_alloc] at this; omega
  have hsz0 := hb.size
  refine ⟨fun g => N g ∨ (w.heap.size ≤ g ∧ g < w4.heap.size), h.hdr.of fun g hl hx => ?_, fun g hg => ?_, ?_⟩
  · have hnN : ¬ N g := by
      rcases hx with rfl | ⟨k, hx⟩
      · exact h.hdr.outb
      · exact h.hdr.out k g hx
    refine ⟨(hap.grown.block g (by rw [World.size_alloc]; omega) (fun e => hnN (h.outs.in_ g e.symm))).trans ((Below.heap_alloc w3 _ g (by omega)).trans (hb.block g hl)), fun e => ?_⟩
    rcases e with e | e
    · exact hnN e
    · omega
  · rcases hg with hg | hg
    · have := h.lt g hg; omega
    · exact hg.2
  · have ho : Outs w3 base (fun g => N g ∨ (w.heap.size ≤ g ∧ g < w3.heap.size)) (.slice A0 vs.length c0) vs s.2 := h.outs.of fun g hg hl => ⟨hb.block g hl, .inl hg⟩
    refine ho.push (hu.of (fun _ _ _ => rfl) fun g hg hl => ⟨.inr ⟨hg, hl⟩, fun e => ?_⟩) hap (fun g hg hx => ?_)
    · have := (h.outs.own.lt g e).2
      omega
    · rcases hx with (hx | hx) | hx
      · exact .inl hx
      · exact .inr ⟨hx.1, hg⟩
      · exact .inr ⟨by omega, hg⟩
end Go.Proofs.Ytaoedejenjfhoaa
