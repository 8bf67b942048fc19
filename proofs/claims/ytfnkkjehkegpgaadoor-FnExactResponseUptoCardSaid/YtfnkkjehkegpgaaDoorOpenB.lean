/- Arguments that are slices, opened: of bytes; what the row's reading says of their cells. -/
import Derived.Test.YtfnkkjehkegpgaaDoorFrameD
import Derived.Test.YtfnkkjehkegpgaaDoorErrs
import Derived.ChangeSlices
namespace Go.Proofs.YtfnkkjehkegpgaaDoor
open Go.ChangeShapes Go.WideShapes Go.ChangeAt Go.RowKit

theorem byte_of_wf {n : Int} (h : (Lit.int .u8 n).wf = true) : ∃ b : UInt8, n = b.toNat := by
  have h2 : 0 ≤ n ∧ n ≤ 255 := by simpa [Lit.wf, IntKind.min, IntKind.max, IntKind.signed, IntKind.bits] using h
  refine ⟨UInt8.ofNat n.toNat, ?_⟩
  rw [UInt8.toNat_ofNat_of_lt' (by show n.toNat < 256; omega)]
  omega
theorem bytes_of_nums {zs : List Int} (h : ∀ n ∈ zs, (Lit.int .u8 n).wf = true) : ∃ l : List UInt8, zs = l.map (fun b => (b.toNat : Int)) := by
  induction zs with
  | nil => exact ⟨[], rfl⟩
  | cons n t ih =>
    obtain ⟨b, hb⟩ := byte_of_wf (h n (List.mem_cons_self ..))
    obtain ⟨l, hl⟩ := ih (fun x hx => h x (List.mem_cons_of_mem _ hx))
    exact ⟨b :: l, by rw [hb, hl]; rfl⟩
set_option maxRecDepth 200000 in
/-- A slice of bytes that came in. -/
theorem open_bytesV {H : Type} {enc : TypeId × Value → H} {W : World} {b0 : Nat} {v : Value} {d : DataW H} {p : List MemPlace} (hval : Value.okWide Tryd.prog W .any b0 23 v) (hd : DataW.Trod enc Tryd.prog W 0 (fun _ => true) true 23 v d p) :
    ∃ (A : Option Addr) (n c : Nat) (l : List UInt8), v = .slice A n c ∧ n = l.length ∧ RB W A l ∧ l.length ≤ 9223372036854775807 ∧ l.length ≤ c ∧ c ≤ 9223372036854775807 := by
  obtain ⟨A, n, c, rfl⟩ := okWide_slice Tryd.underlying23 hval
  obtain ⟨fuel, hf⟩ := hd
  have hc : Tryd.prog.cellsOf 5 = 1 := by kernel_rfl
  rcases open_ints Tryd.underlying23 Tryd.underlying5 hc hf with ⟨h, _⟩ | ⟨a, len, cap, zs, h, _, hl, hm, hz, _, hcell, hw⟩
  · simp [Value.cells] at h
    obtain ⟨rfl, rfl, rfl⟩ := h
    exact ⟨none, 0, 0, [], rfl, rfl, RB.nil _ _, by decide, by decide, by decide⟩
  · simp [Value.cells] at h
    obtain ⟨rfl, rfl, rfl⟩ := h
    simp only [if_true] at hz
    obtain ⟨l, rfl⟩ := bytes_of_nums hw
    rw [List.length_map] at hz
    refine ⟨some a, n, c, l.take n, rfl, by rw [List.length_take]; omega, fun hne => ?_, by rw [List.length_take]; unfold maxLen at hm; omega, by rw [List.length_take]; omega, by unfold maxLen at hm; omega⟩
    have hn : 0 < n := by
      rcases n with _ | n
      · simp at hne
      · omega
    obtain ⟨b, off, spot⟩ := a
    have hspot : spot = none := by simpa [Addr.add] using World.cell?_spot (hcell 0 (by rw [List.length_map]; omega))
    subst hspot
    refine ⟨b, off, rfl, fun i u hu => ?_⟩
    have hi : i < n := by
      rcases Nat.lt_or_ge i n with h' | h'
      · exact h'
      · rw [List.getElem?_eq_none (by rw [List.length_take]; omega)] at hu; cases hu
    rw [List.getElem?_take_of_lt hi] at hu
    have := hcell i (by rw [List.length_map]; omega)
    have ha : (Addr.mk b off none).add i = ⟨b, off + i, none⟩ := by
      unfold Addr.add
      split
      · rename_i h0; subst h0; rfl
      · rfl
    rw [ha, List.getD_eq_getElem?_getD, List.getElem?_map, hu] at this
    exact this
end Go.Proofs.YtfnkkjehkegpgaaDoor
