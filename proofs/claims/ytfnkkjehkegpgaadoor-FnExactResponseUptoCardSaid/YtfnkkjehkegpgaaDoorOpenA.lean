/- Arguments that are slices of lines of an answer, opened. -/
import Derived.Test.YtfnkkjehkegpgaaDoorOpenB
import Derived.Test.YtfnkkjehkegpgaaDoorBulk
import Derived.Test.YtfnkkjehkegpgaaDoorRespLaw
import Derived.Deep.SlicePairs
namespace Go.Proofs.YtfnkkjehkegpgaaDoor
open Go.ChangeShapes Go.WideShapes Go.ChangeAt Go.RowKit

def AnsL.wt (l : AnsL) : Nat := l.t.length + 2
/-- A slice's address under which lines lie. -/
def AL (w : World) (A : Option Addr) (ls : List AnsL) : Prop :=
  ls ≠ [] → ∃ g o, A = some ⟨g, o, none⟩ ∧ ∀ i l, ls[i]? = some l → w.cell? ⟨g, o + i * 2, none⟩ = some (.string ⟨l.t.toArray⟩) ∧ w.cell? ⟨g, o + i * 2 + 1, none⟩ = some (.bool l.bare)
theorem AL.nil (w : World) (A : Option Addr) : AL w A [] := fun h => absurd rfl h
theorem AL.below {w w' : World} {A : Option Addr} {ls : List AnsL} (h : AL w A ls) (hb : Below w.heap.size w w') : AL w' A ls := by
  intro hne
  obtain ⟨g, o, he, hx⟩ := h hne
  exact ⟨g, o, he, fun i l hl => ⟨(hb.cell (p := ⟨g, o + i * 2, none⟩) (World.block_lt_of_cell? _ _ (hx i l hl).1)).trans (hx i l hl).1, (hb.cell (p := ⟨g, o + i * 2 + 1, none⟩) (World.block_lt_of_cell? _ _ (hx i l hl).2)).trans (hx i l hl).2⟩⟩
theorem add_addA (g o i : Nat) : (Addr.mk g o none).add i = ⟨g, o + i, none⟩ := by
  unfold Addr.add
  split
  · rename_i h0; subst h0; rfl
  · rfl
theorem string_ofA {H : Type} {enc : TypeId × Value → H} {W : World} {fuel : Nat} {v : Value} {x : DataW H × List MemPlace} (h : DataW.trod enc Tryd.prog W 0 (fun _ => true) true fuel 9 [v] = some x) :
    ∃ l : List UInt8, v = .string ⟨l.toArray⟩ ∧ l.length ≤ 9223372036854775807 ∧ Rows.uptoBulk x.1 = l.length + 1 := by
  obtain ⟨s, h1, h2, h3⟩ := DataW.trod_string Tryd.underlying9 h
  obtain rfl : v = .string s := by simpa using h1
  subst h2
  refine ⟨s.data.toList, ?_, ?_, bulk_string _⟩
  · exact congrArg Value.string (mk_of s).symm
  · have : s.data.toList.length = s.size := by simp
    unfold maxLen at h3
    omega
set_option maxRecDepth 200000 in
/-- A slice of lines that came in. -/
theorem open_linesV {H : Type} {enc : TypeId × Value → H} {W : World} {b0 : Nat} {v : Value} {d : DataW H} {p : List MemPlace} (hval : Value.okWide Tryd.prog W .any b0 22 v) (hd : DataW.Trod enc Tryd.prog W 0 (fun _ => true) true 22 v d p) :
    ∃ (A : Option Addr) (n c : Nat) (ls : List AnsL), v = .slice A n c ∧ n = ls.length ∧ AL W A ls ∧ (∀ l ∈ ls, l.t.length ≤ 9223372036854775807) ∧ ls.length ≤ 9223372036854775807 ∧ (ls.map AnsL.wt).sum ≤ Rows.uptoBulk d := by
  obtain ⟨A, n, c, rfl⟩ := okWide_slice Tryd.underlying22 hval
  obtain ⟨fuel, hf⟩ := hd
  rcases Deep.open_slice_pairs Tryd.underlying22 Tryd.underlying42 (by kernel_rfl) rfl rfl (by kernel_rfl) (by kernel_rfl) hf with ⟨h, _⟩ | ⟨a, len, cap, m, fu, V0, V1, D0, D1, P0, P1, h, _, hl, hm, hmm, hxd, hx⟩
  · simp [Value.cells] at h
    obtain ⟨rfl, rfl, rfl⟩ := h
    exact ⟨none, 0, 0, [], rfl, rfl, AL.nil _ _, fun _ h => (by cases h), by decide, by simp⟩
  · simp [Value.cells] at h
    obtain ⟨rfl, rfl, rfl⟩ := h
    simp only [if_true] at hmm
    simp only [Prod.mk.injEq] at hxd
    obtain ⟨rfl, _⟩ := hxd
    unfold maxLen at hm
    obtain ⟨g, off, spot⟩ := a
    by_cases hn0 : n = 0
    · subst hn0
      exact ⟨some ⟨g, off, spot⟩, 0, c, [], rfl, rfl, AL.nil _ _, fun _ h => (by cases h), by decide, by simp⟩
    · have hspot : spot = none := by simpa [Addr.add] using World.cell?_spot (hx 0 (by omega)).1
      subst hspot
      have each : ∀ i, i < n → ∃ l : AnsL, V0 i = .string ⟨l.t.toArray⟩ ∧ V1 i = .bool l.bare ∧ l.t.length ≤ 9223372036854775807 ∧ l.wt ≤ Rows.uptoBulk (.agg [D0 i, D1 i]) := fun i hi => by
        obtain ⟨_, _, t0, t1⟩ := hx i (by omega)
        obtain ⟨l, h1, h2, h3⟩ := string_ofA t0
        obtain ⟨b, h4, _⟩ := DataW.trod_bool Tryd.underlying4 t1
        refine ⟨⟨l, b⟩, h1, by simpa using h4, h2, ?_⟩
        rw [bulk_agg2]
        have h3' : Rows.uptoBulk (D0 i) = l.length + 1 := h3
        show l.length + 2 ≤ _
        omega
      have : Inhabited AnsL := ⟨⟨[], false⟩⟩
      obtain ⟨y, hy⟩ := Deep.choose_lt each
      refine ⟨some ⟨g, off, none⟩, n, c, (List.range n).map y, rfl, by simp, fun _ => ⟨g, off, rfl, fun i l hl => ?_⟩, fun l hl => ?_, by rw [List.length_map, List.length_range]; omega, ?_⟩
      · have hi : i < n := by
          rcases Nat.lt_or_ge i n with h' | h'
          · exact h'
          · rw [List.getElem?_eq_none (by simpa using h')] at hl; cases hl
        rw [List.getElem?_map, List.getElem?_range hi] at hl
        injection hl with hl
        subst hl
        obtain ⟨c0, c1, _, _⟩ := hx i (by omega)
        rw [add_addA] at c0 c1
        rw [← Nat.add_assoc] at c1
        rw [c0, c1, (hy i hi).1, (hy i hi).2.1]
        exact ⟨rfl, rfl⟩
      · obtain ⟨i, hi, rfl⟩ := List.mem_map.1 hl
        exact (hy i (by simpa using hi)).2.2.1
      · refine Nat.le_trans ?_ (bulk_slice _ _)
        rw [List.map_map]
        exact bulk_range _ _ n (fun i hi => (hy i hi).2.2.2)
end Go.Proofs.YtfnkkjehkegpgaaDoor
