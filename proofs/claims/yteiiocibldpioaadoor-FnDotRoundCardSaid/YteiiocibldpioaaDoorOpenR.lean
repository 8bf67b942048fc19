/- Arguments that are slices of slices of bytes, opened. -/
import Derived.Test.YteiiocibldpioaaDoorOpenB
import Derived.Deep.Slices
namespace Go.Proofs.YteiiocibldpioaaDoor
open Go.ChangeShapes Go.WideShapes Go.ChangeAt Go.RowKit

/-- A slice's address under which slices of bytes lie that read as ds. -/
def BL (w : World) (A : Option Addr) (ds : List (List UInt8)) : Prop :=
  ds ≠ [] → ∃ g o, A = some ⟨g, o, none⟩ ∧ ∀ i d, ds[i]? = some d → ∃ B c, w.cell? ⟨g, o + i, none⟩ = some (.slice B d.length c) ∧ d.length ≤ c ∧ c ≤ 9223372036854775807 ∧ RB w B d
theorem BL.nil (w : World) (A : Option Addr) : BL w A [] := fun h => absurd rfl h
theorem BL.lt {w : World} {A : Option Addr} {ds : List (List UInt8)} (h : BL w A ds) : ∀ g o, A = some ⟨g, o, none⟩ → ds ≠ [] → g < w.heap.size := by
  intro g o e hne
  obtain ⟨g', o', he, hx⟩ := h hne
  rw [e] at he; injection he with he; injection he with h1 h2; subst h1; subst h2
  rcases ds with _ | ⟨s, t⟩
  · exact absurd rfl hne
  · obtain ⟨B, c, h, _⟩ := hx 0 s rfl
    exact World.block_lt_of_cell? _ _ h
theorem BL.below {w w' : World} {A : Option Addr} {ds : List (List UInt8)} (h : BL w A ds) (hb : Below w.heap.size w w') : BL w' A ds := by
  intro hne
  obtain ⟨g, o, he, hx⟩ := h hne
  refine ⟨g, o, he, fun i d hd => ?_⟩
  obtain ⟨B, c, h1, h2, h3, h4⟩ := hx i d hd
  exact ⟨B, c, (hb.cell (p := ⟨g, o + i, none⟩) (h.lt g o he hne)).trans h1, h2, h3, h4.below hb⟩
theorem BL.at_ {w : World} {A : Option Addr} {ds : List (List UInt8)} (h : BL w A ds) {i : Nat} {d : List UInt8} (hd : ds[i]? = some d) :
    ∃ g o B c, A = some ⟨g, o, none⟩ ∧ w.cell? ⟨g, o + i, none⟩ = some (.slice B d.length c) ∧ d.length ≤ c ∧ c ≤ 9223372036854775807 ∧ RB w B d := by
  obtain ⟨g, o, he, hx⟩ := h (by rintro rfl; simp at hd)
  obtain ⟨B, c, h1, h2, h3, h4⟩ := hx i d hd
  exact ⟨g, o, B, c, he, h1, h2, h3, h4⟩
theorem BL.one (w : World) (B : Option Addr) (d : List UInt8) (c : Nat) (t : TypeId) (g : Nat) (hg : g = w.heap.size) (h1 : d.length ≤ c) (h2 : c ≤ 9223372036854775807) (h3 : RB w B d) : BL (w.alloc (.cells #[.slice B d.length c] t)) (some ⟨g, 0, none⟩) [d] := by
  subst hg
  intro _
  refine ⟨_, _, rfl, fun i u hu => ?_⟩
  rcases i with _ | i
  · simp at hu; subst hu; exact ⟨B, c, by simp, h1, h2, h3.below ((Below.refl _ _).alloc (Nat.le_refl _) _)⟩
  · simp at hu
theorem addr_addR (g o i : Nat) : (Addr.mk g o none).add i = ⟨g, o + i, none⟩ := by
  unfold Addr.add
  split
  · rename_i h0; subst h0; rfl
  · rfl
/-- The numbers of a row of bytes, as bytes. -/
theorem bytes_of_ints (zs : List Int) (h : ∀ n ∈ zs, (Lit.int .u8 n).wf = true) : ∃ l : List UInt8, l.length = zs.length ∧ ∀ i, i < zs.length → zs.getD i 0 = ((l.getD i 0).toNat : Int) := by
  refine ⟨zs.map (fun z => UInt8.ofNat z.toNat), by simp, fun i hi => ?_⟩
  have hz := h zs[i] (List.getElem_mem hi)
  have hb : 0 ≤ zs[i] ∧ zs[i] ≤ 255 := by simpa [Lit.wf, IntKind.min, IntKind.max, IntKind.signed, IntKind.bits] using hz
  simp only [List.getD_eq_getElem?_getD, List.getElem?_eq_getElem hi, List.getElem?_map, Option.map_some, Option.getD_some]
  rw [UInt8.toNat_ofNat']
  omega
set_option maxRecDepth 200000 in
/-- A slice of slices of bytes that came in. -/
theorem open_rowsV {H : Type} {enc : TypeId × Value → H} {W : World} {b0 : Nat} {v : Value} {d : DataW H} {p : List MemPlace} (hval : Value.okWide Tryd.prog W .any b0 22 v) (hd : DataW.Trod enc Tryd.prog W 0 (fun _ => true) true 22 v d p) :
    ∃ (A : Option Addr) (n c : Nat) (ds : List (List UInt8)), v = .slice A n c ∧ n = ds.length ∧ BL W A ds ∧ (∀ l ∈ ds, l.length ≤ 9223372036854775807) ∧ ds.length ≤ c ∧ c ≤ 9223372036854775807 := by
  obtain ⟨A, n, c, rfl⟩ := okWide_slice Tryd.underlying22 hval
  obtain ⟨fuel, hf⟩ := hd
  have hc : Tryd.prog.cellsOf 24 = 1 := by kernel_rfl
  have hu : Tryd.prog.cellsOf 5 = 1 := by kernel_rfl
  rcases Deep.open_slice1 Tryd.underlying22 hc hf with ⟨h, _⟩ | ⟨a, len, cap, m, fu, V, D, Pl, h, _, hl, hm, hmm, _, hx⟩
  · simp [Value.cells] at h
    obtain ⟨rfl, rfl, rfl⟩ := h
    exact ⟨none, 0, 0, [], rfl, rfl, BL.nil _ _, fun _ h => (by cases h), Nat.le_refl _, by decide⟩
  · simp [Value.cells] at h
    obtain ⟨rfl, rfl, rfl⟩ := h
    simp only [if_true] at hmm
    have each : ∀ i, i < n → ∃ y : Option Addr × Nat × List UInt8, V i = .slice y.1 y.2.2.length y.2.1 ∧ y.2.2.length ≤ y.2.1 ∧ y.2.1 ≤ 9223372036854775807 ∧ RB W y.1 y.2.2 := by
      intro i hi
      rcases open_ints Tryd.underlying24 Tryd.underlying5 hu (hx i (by omega)).2 with ⟨hcs, _⟩ | ⟨a', len', cap', zs, hcs, _, hl', hm', hz, _, hcell, hwz⟩
      · exact ⟨(none, 0, []), by simpa using hcs, Nat.le_refl _, by decide, RB.nil _ _⟩
      · simp only [if_true] at hz
        obtain ⟨l, hll, hlg⟩ := bytes_of_ints zs hwz
        unfold maxLen at hm'
        refine ⟨(some a', cap', l.take len'), ?_, by simp; omega, by simp; omega, fun hne => ?_⟩
        · have h1 : V i = .slice (some a') len' cap' := by simpa using hcs
          rw [h1]
          have : (l.take len').length = len' := by rw [List.length_take]; omega
          simp only [this]
        · have hn : 0 < len' := by
            rcases len' with _ | k
            · simp at hne
            · omega
          obtain ⟨b, off, spot⟩ := a'
          have hspot : spot = none := by simpa [Addr.add] using World.cell?_spot (hcell 0 (by omega))
          subst hspot
          refine ⟨b, off, rfl, fun j u hu => ?_⟩
          have hj : j < len' := by
            rcases Nat.lt_or_ge j len' with h' | h'
            · exact h'
            · rw [List.getElem?_eq_none (by simp only [List.length_take]; omega)] at hu; cases hu
          simp only [] at hu
          rw [List.getElem?_take_of_lt hj] at hu
          have h2 := hcell j (by omega)
          rw [hlg j (by omega), List.getD_eq_getElem?_getD, hu] at h2
          rw [← addr_addR]
          exact h2
    obtain ⟨y, hy⟩ := Deep.choose_lt each
    unfold maxLen at hm
    refine ⟨some a, n, c, (List.range n).map (fun i => (y i).2.2), rfl, by simp, fun hne => ?_, fun l hl2 => ?_, by simpa using hl, by omega⟩
    · have hn : 0 < n := by
        rcases n with _ | n
        · simp at hne
        · omega
      obtain ⟨b, off, spot⟩ := a
      have hspot : spot = none := by simpa [Addr.add] using World.cell?_spot (hx 0 (by omega)).1
      subst hspot
      refine ⟨b, off, rfl, fun i d hd => ?_⟩
      have hi : i < n := by
        rcases Nat.lt_or_ge i n with h' | h'
        · exact h'
        · rw [List.getElem?_eq_none (by simpa using h')] at hd; cases hd
      rw [List.getElem?_map, List.getElem?_range hi] at hd
      injection hd with hd
      subst hd
      obtain ⟨h1, h2, h3, h4⟩ := hy i hi
      refine ⟨(y i).1, (y i).2.1, ?_, h2, h3, h4⟩
      have h5 := (hx i (by omega)).1
      rw [addr_addR, h1] at h5
      exact h5
    · obtain ⟨i, hi, rfl⟩ := List.mem_map.1 hl2
      obtain ⟨_, h2, h3, _⟩ := hy i (by simpa using hi)
      omega
end Go.Proofs.YteiiocibldpioaaDoor
