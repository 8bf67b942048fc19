/- Arguments that are slices of steps, opened. -/
import Derived.Test.YtaoedejenjfhoaaRunL
import Derived.Test.YtaoedejenjfhoaaFrame
import Derived.Test.YtaoedejenjfhoaaBulk
import Derived.ChangeSlices
import Derived.Deep.SlicePairs
namespace Go.Proofs.Ytaoedejenjfhoaa
open Go.ChangeShapes Go.WideShapes Go.ChangeAt Go.RowKit

def StepR.wt (t : StepR) : Nat := t.c.length + t.k.length + t.v.length + 4
def StepR.len (t : StepR) : Prop := t.c.length ≤ 9223372036854775807 ∧ t.k.length ≤ 9223372036854775807 ∧ t.v.length ≤ 9223372036854775807
theorem add_addV (g o i : Nat) : (Addr.mk g o none).add i = ⟨g, o + i, none⟩ := by
  unfold Addr.add
  split
  · rename_i h0; subst h0; rfl
  · rfl
theorem string_ofV {H : Type} {enc : TypeId × Value → H} {W : World} {fuel : Nat} {v : Value} {x : DataW H × List MemPlace} (h : DataW.trod enc Try.prog W 0 (fun _ => true) true fuel 9 [v] = some x) :
    ∃ l : List UInt8, v = .string ⟨l.toArray⟩ ∧ l.length ≤ 9223372036854775807 ∧ Rows.uptoBulk x.1 = l.length + 1 := by
  obtain ⟨s, h1, h2, h3⟩ := DataW.trod_string Try.underlying9 h
  obtain rfl : v = .string s := by simpa using h1
  subst h2
  refine ⟨s.data.toList, ?_, ?_, bulk_string _⟩
  · exact congrArg Value.string (mk_of s).symm
  · have : s.data.toList.length = s.size := by simp
    unfold maxLen at h3
    omega
/-- A step at a place. -/
def StepAt (w : World) (g o : Nat) (t : StepR) : Prop := w.cell? ⟨g, o, none⟩ = some (.string ⟨t.c.toArray⟩) ∧ w.cell? ⟨g, o + 1, none⟩ = some (.string ⟨t.k.toArray⟩) ∧ w.cell? ⟨g, o + 2, none⟩ = some (.string ⟨t.v.toArray⟩)
set_option maxRecDepth 200000 in
/-- Three cells read as a step. -/
theorem step_ofT {H : Type} {enc : TypeId × Value → H} {W : World} {fuel g o : Nat} {cs : List Value} {x : DataW H × List MemPlace} (hc : W.cells? 0 ⟨g, o, none⟩ 3 = some cs) (h : DataW.trod enc Try.prog W 0 (fun _ => true) true fuel 36 cs = some x) :
    ∃ t : StepR, StepAt W g o t ∧ t.len ∧ t.wt ≤ Rows.uptoBulk x.1 := by
  obtain ⟨_, hlen, hcell⟩ := World.cells?_some hc
  obtain ⟨y0, y1, y2, n, rfl, _, t0, t1, t2⟩ := Deep.trod_struct3 Try.underlying36 h
  match cs, hlen with
  | [v0, v1, v2], _ =>
    have k2 : Try.prog.cellsOf 9 = 1 := by kernel_rfl
    have e0 := hcell 0 (by omega)
    have e1 := hcell 1 (by omega)
    have e2 := hcell 2 (by omega)
    rw [add_addV] at e0 e1 e2
    simp only [k2] at t0 t1 t2
    obtain ⟨a, rfl, ha, haw⟩ := string_ofV (by simpa using t0)
    obtain ⟨b, rfl, hb, hbw⟩ := string_ofV (by simpa using t1)
    obtain ⟨d, rfl, hd, hdw⟩ := string_ofV (by simpa using t2)
    refine ⟨⟨a, b, d⟩, ⟨by simpa using e0, by simpa using e1, by simpa using e2⟩, ⟨ha, hb, hd⟩, ?_⟩
    show a.length + b.length + d.length + 4 ≤ _
    rw [bulk_agg3]
    omega
set_option maxRecDepth 200000 in
/-- A slice of steps that came in. -/
theorem open_stepsV {H : Type} {enc : TypeId × Value → H} {W : World} {b0 : Nat} {v : Value} {d : DataW H} {p : List MemPlace} (hval : Value.okWide Try.prog W .any b0 27 v) (hd : DataW.Trod enc Try.prog W 0 (fun _ => true) true 27 v d p) :
    ∃ (A : Option Addr) (n c : Nat) (ts : List StepR), v = .slice A n c ∧ n = ts.length ∧ TL W A ts ∧ (∀ t ∈ ts, t.len) ∧ ts.length ≤ 9223372036854775807 ∧ (ts.map StepR.wt).sum ≤ Rows.uptoBulk d := by
  obtain ⟨A, n, c, rfl⟩ := okWide_slice Try.underlying27 hval
  obtain ⟨fuel, hf⟩ := hd
  have hc : Try.prog.cellsOf 36 = 3 := by kernel_rfl
  rcases Deep.open_slice Try.underlying27 hf with ⟨h, _⟩ | ⟨a, len, cap, m, fu, D, Pl, h, _, hl, hm, hmm, hxd, hx⟩
  · simp [Value.cells] at h
    obtain ⟨rfl, rfl, rfl⟩ := h
    exact ⟨none, 0, 0, [], rfl, rfl, TL.nil _ _, fun _ h => (by cases h), by decide, by simp⟩
  · simp [Value.cells] at h
    obtain ⟨rfl, rfl, rfl⟩ := h
    simp only [if_true] at hmm
    rw [hc] at hx
    simp only [Prod.mk.injEq] at hxd
    obtain ⟨rfl, _⟩ := hxd
    unfold maxLen at hm
    obtain ⟨g, off, spot⟩ := a
    by_cases hn0 : n = 0
    · subst hn0
      exact ⟨some ⟨g, off, spot⟩, 0, c, [], rfl, rfl, TL.nil _ _, fun _ h => (by cases h), by decide, by simp⟩
    · have hspot : spot = none := by
        obtain ⟨cs', h1, _⟩ := hx 0 (by omega)
        obtain ⟨_, hlen, hcell⟩ := World.cells?_some h1
        have := hcell 0 (by omega)
        have e : cs'[0]? = some (cs'[0]'(by omega)) := List.getElem?_eq_getElem _
        rw [e] at this
        simpa [Addr.add] using World.cell?_spot this
      subst hspot
      have each : ∀ i, i < n → ∃ t : StepR, StepAt W g (off + i * 3) t ∧ t.len ∧ t.wt ≤ Rows.uptoBulk (D i) := fun i hi => by
        obtain ⟨cs', h1, h2⟩ := hx i (by omega)
        rw [add_addV] at h1
        exact step_ofT h1 h2
      have : Inhabited StepR := ⟨⟨[], [], []⟩⟩
      obtain ⟨y, hy⟩ := Deep.choose_lt each
      refine ⟨some ⟨g, off, none⟩, n, c, (List.range n).map y, rfl, by simp, fun _ => ⟨g, off, rfl, fun i L hL => ?_⟩, fun L hL => ?_, by simp; omega, ?_⟩
      · have hi : i < n := by
          rcases Nat.lt_or_ge i n with h' | h'
          · exact h'
          · rw [List.getElem?_eq_none (by simpa using h')] at hL; cases hL
        rw [List.getElem?_map, List.getElem?_range hi] at hL
        injection hL with hL
        subst hL
        exact (hy i hi).1
      · obtain ⟨i, hi, rfl⟩ := List.mem_map.1 hL
        exact (hy i (by simpa using hi)).2.1
      · refine Nat.le_trans ?_ (bulk_slice _ _)
        rw [List.map_map]
        exact bulk_range _ _ n (fun i hi => (hy i hi).2.2)
/-- Each weighs no more than all. -/
theorem wt_le (ts : List StepR) (m : Nat) (h : (ts.map StepR.wt).sum ≤ m) : ts.length ≤ m ∧ ∀ t ∈ ts, t.c.length ≤ m ∧ t.k.length ≤ m ∧ t.v.length ≤ m := by
  induction ts generalizing m with
  | nil => exact ⟨Nat.zero_le _, fun _ h => by cases h⟩
  | cons t r ih =>
    simp only [List.map_cons, List.sum_cons] at h
    have hw : t.c.length + t.k.length + t.v.length + 4 = t.wt := rfl
    obtain ⟨h1, h2⟩ := ih (m - t.wt) (by omega)
    refine ⟨by simp only [List.length_cons]; omega, fun x hx => ?_⟩
    rcases List.mem_cons.1 hx with rfl | hx
    · omega
    · have := h2 x hx
      omega
end Go.Proofs.Ytaoedejenjfhoaa
