/- Arguments that are slices of strings, opened. -/
import Derived.Test.YteiiocibldpioaaDoorOpenB
import Derived.Test.YteiiocibldpioaaDoorStrs
import Derived.SliceStrings
namespace Go.Proofs.YteiiocibldpioaaDoor
open Go.ChangeShapes Go.WideShapes Go.ChangeAt Go.RowKit

set_option maxRecDepth 200000 in
/-- A slice of strings that came in. -/
theorem open_stringsV {H : Type} {enc : TypeId × Value → H} {W : World} {b0 : Nat} {v : Value} {d : DataW H} {p : List MemPlace} (hval : Value.okWide Tryd.prog W .any b0 28 v) (hd : DataW.Trod enc Tryd.prog W 0 (fun _ => true) true 28 v d p) :
    ∃ (A : Option Addr) (n c : Nat) (ls : List (List UInt8)), v = .slice A n c ∧ n = ls.length ∧ SL W A ls ∧ (∀ l ∈ ls, l.length ≤ 9223372036854775807) ∧ ls.length ≤ 9223372036854775807 := by
  obtain ⟨A, n, c, rfl⟩ := okWide_slice Tryd.underlying28 hval
  obtain ⟨fuel, hf⟩ := hd
  have hc : Tryd.prog.cellsOf 9 = 1 := by kernel_rfl
  rcases open_strings Tryd.underlying28 Tryd.underlying9 hc hf with ⟨h, _⟩ | ⟨a, len, cap, ss, h, _, hl, hm, hz, _, hcell, hw⟩
  · simp [Value.cells] at h
    obtain ⟨rfl, rfl, rfl⟩ := h
    exact ⟨none, 0, 0, [], rfl, rfl, SL.nil _ _, fun _ h => (by cases h), by decide⟩
  · simp [Value.cells] at h
    obtain ⟨rfl, rfl, rfl⟩ := h
    simp only [if_true] at hz
    refine ⟨some a, n, c, (ss.take n).map (fun s => s.data.toList), rfl, by simp; omega, fun hne => ?_, fun l hl => ?_, by simp; unfold maxLen at hm; omega⟩
    · have hn : 0 < n := by
        rcases n with _ | n
        · simp at hne
        · omega
      obtain ⟨b, off, spot⟩ := a
      have hspot : spot = none := by simpa [Addr.add] using World.cell?_spot (hcell 0 (by omega))
      subst hspot
      refine ⟨b, off, rfl, fun i s hs => ?_⟩
      rw [List.getElem?_map] at hs
      obtain ⟨x, hx, rfl⟩ := Option.map_eq_some_iff.1 hs
      have hi : i < n := by
        rcases Nat.lt_or_ge i n with h' | h'
        · exact h'
        · rw [List.getElem?_eq_none (by rw [List.length_take]; omega)] at hx; cases hx
      rw [List.getElem?_take_of_lt hi] at hx
      have := hcell i (by omega)
      have ha : (Addr.mk b off none).add i = ⟨b, off + i, none⟩ := by
        unfold Addr.add
        split
        · rename_i h0; subst h0; rfl
        · rfl
      rw [ha, List.getD_eq_getElem?_getD, hx] at this
      rw [this]
      exact congrArg (fun z => some (Value.string z)) (mk_of x)
    · obtain ⟨s, hs, rfl⟩ := List.mem_map.1 hl
      have h1 := hw s (List.mem_of_mem_take hs)
      have h2 : s.data.toList.length = s.size := by simp
      unfold maxLen at h1
      omega
set_option maxRecDepth 200000 in
/-- A slice of ints that came in. -/
theorem open_intsV {H : Type} {enc : TypeId × Value → H} {W : World} {b0 : Nat} {v : Value} {d : DataW H} {p : List MemPlace} (hval : Value.okWide Tryd.prog W .any b0 30 v) (hd : DataW.Trod enc Tryd.prog W 0 (fun _ => true) true 30 v d p) :
    ∃ (A : Option Addr) (n c : Nat) (zs : List Int), v = .slice A n c ∧ n = zs.length ∧ (zs ≠ [] → ∃ g o, A = some ⟨g, o, none⟩ ∧ ∀ (i : Nat) (z : Int), zs[i]? = some z → W.cell? ⟨g, o + i, none⟩ = some (.int .i64 z)) ∧ zs.length ≤ 9223372036854775807 := by
  obtain ⟨A, n, c, rfl⟩ := okWide_slice Tryd.underlying30 hval
  obtain ⟨fuel, hf⟩ := hd
  have hc : Tryd.prog.cellsOf 3 = 1 := by kernel_rfl
  rcases open_ints Tryd.underlying30 Tryd.underlying3 hc hf with ⟨h, _⟩ | ⟨a, len, cap, zs, h, _, hl, hm, hz, _, hcell, hw⟩
  · simp [Value.cells] at h
    obtain ⟨rfl, rfl, rfl⟩ := h
    exact ⟨none, 0, 0, [], rfl, rfl, fun h => absurd rfl h, by decide⟩
  · simp [Value.cells] at h
    obtain ⟨rfl, rfl, rfl⟩ := h
    simp only [if_true] at hz
    refine ⟨some a, n, c, zs.take n, rfl, by rw [List.length_take]; omega, fun hne => ?_, by rw [List.length_take]; unfold maxLen at hm; omega⟩
    have hn : 0 < n := by
      rcases n with _ | n
      · simp at hne
      · omega
    obtain ⟨b, off, spot⟩ := a
    have hspot : spot = none := by simpa [Addr.add] using World.cell?_spot (hcell 0 (by omega))
    subst hspot
    refine ⟨b, off, rfl, fun i u hu => ?_⟩
    have hi : i < n := by
      rcases Nat.lt_or_ge i n with h' | h'
      · exact h'
      · rw [List.getElem?_eq_none (by rw [List.length_take]; omega)] at hu; cases hu
    rw [List.getElem?_take_of_lt hi] at hu
    have := hcell i (by omega)
    have ha : (Addr.mk b off none).add i = ⟨b, off + i, none⟩ := by
      unfold Addr.add
      split
      · rename_i h0; subst h0; rfl
      · rfl
    rw [ha, List.getD_eq_getElem?_getD, hu] at this
    exact this
end Go.Proofs.YteiiocibldpioaaDoor
