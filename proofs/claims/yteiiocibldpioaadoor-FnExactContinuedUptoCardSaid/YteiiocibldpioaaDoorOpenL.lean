/- Arguments that are slices of long lines, opened. -/
import Derived.Test.YteiiocibldpioaaDoorOpenB
import Derived.Test.YteiiocibldpioaaDoorStrs
import Derived.Test.YteiiocibldpioaaDoorBulk
namespace Go.Proofs.YteiiocibldpioaaDoor
open Go.ChangeShapes Go.WideShapes Go.ChangeAt Go.RowKit

/-- The weight of texts. -/
def wtS (ls : List (List UInt8)) : Nat := (ls.map fun l => l.length + 1).sum
theorem add_addL (g o i : Nat) : (Addr.mk g o none).add i = ⟨g, o + i, none⟩ := by
  unfold Addr.add
  split
  · rename_i h0; subst h0; rfl
  · rfl
theorem string_ofT {H : Type} {enc : TypeId × Value → H} {W : World} {fuel : Nat} {v : Value} {x : DataW H × List MemPlace} (h : DataW.trod enc Tryd.prog W 0 (fun _ => true) true fuel 9 [v] = some x) :
    ∃ l : List UInt8, v = .string ⟨l.toArray⟩ ∧ l.length ≤ 9223372036854775807 ∧ Rows.uptoBulk x.1 = l.length + 1 := by
  obtain ⟨s, h1, h2, h3⟩ := DataW.trod_string Tryd.underlying9 h
  obtain rfl : v = .string s := by simpa using h1
  subst h2
  refine ⟨s.data.toList, ?_, ?_, bulk_string _⟩
  · exact congrArg Value.string (mk_of s).symm
  · have : s.data.toList.length = s.size := by simp
    unfold maxLen at h3
    omega
theorem bool_ofT {H : Type} {enc : TypeId × Value → H} {W : World} {fuel : Nat} {v : Value} {t : TypeId} {x : DataW H × List MemPlace} (ht : Tryd.prog.underlying t = some .bool) (h : DataW.trod enc Tryd.prog W 0 (fun _ => true) true fuel t [v] = some x) :
    ∃ b : Bool, v = .bool b := by
  obtain ⟨b, h1, _⟩ := DataW.trod_bool ht h
  exact ⟨b, by simpa using h1⟩
set_option maxRecDepth 200000 in
/-- A slice of strings, as a cell's value. -/
theorem strings_ofT {H : Type} {enc : TypeId × Value → H} {W : World} {fuel : Nat} {v : Value} {x : DataW H × List MemPlace} (h : DataW.trod enc Tryd.prog W 0 (fun _ => true) true fuel 28 [v] = some x) :
    ∃ (A : Option Addr) (c : Nat) (ls : List (List UInt8)), v = .slice A ls.length c ∧ SL W A ls ∧ (∀ l ∈ ls, l.length ≤ 9223372036854775807) ∧ ls.length ≤ 9223372036854775807 ∧ wtS ls ≤ Rows.uptoBulk x.1 := by
  have hc : Tryd.prog.cellsOf 9 = 1 := by kernel_rfl
  rcases Deep.open_strs Tryd.underlying28 Tryd.underlying9 hc h with ⟨h1, _⟩ | ⟨a, len, cap, m, Sx, h1, _, hl, hm, hmm, rfl, hx⟩
  · obtain rfl : v = .slice none 0 0 := by simpa using h1
    exact ⟨none, 0, [], rfl, SL.nil _ _, fun _ h => (by cases h), by decide, by simp [wtS]⟩
  · obtain rfl : v = .slice (some a) len cap := by simpa using h1
    simp only [if_true] at hmm
    unfold maxLen at hm
    refine ⟨some a, cap, (List.range len).map (fun i => (Sx i).data.toList), by simp, fun hne => ?_, fun l hl2 => ?_, (by rw [List.length_map, List.length_range]; omega), ?_⟩
    · have hn : 0 < len := by
        rcases len with _ | n
        · simp at hne
        · omega
      obtain ⟨b, off, spot⟩ := a
      have hspot : spot = none := by simpa [Addr.add] using World.cell?_spot (hx 0 (by omega)).1
      subst hspot
      refine ⟨b, off, rfl, fun i d hd => ?_⟩
      have hi : i < len := by
        rcases Nat.lt_or_ge i len with h' | h'
        · exact h'
        · rw [List.getElem?_eq_none (by simpa using h')] at hd; cases hd
      rw [List.getElem?_map, List.getElem?_range hi] at hd
      injection hd with hd
      subst hd
      have h5 := (hx i (by omega)).1
      rw [add_addL] at h5
      exact h5.trans (congrArg (fun z => some (Value.string z)) (mk_of (Sx i)).symm)
    · obtain ⟨i, hi, rfl⟩ := List.mem_map.1 hl2
      have h2 := (hx i (by have := List.mem_range.1 hi; omega)).2
      have h3 : (Sx i).data.toList.length = (Sx i).size := by simp
      unfold maxLen at h2
      omega
    · refine Nat.le_trans ?_ (bulk_slice _ _)
      unfold wtS
      rw [List.map_map]
      exact bulk_range _ _ len (fun i hi => by rw [bulk_string]; exact Nat.le_refl _)
/-- A long line as it lies in memory. -/
structure LongR where
  ps : List (List UInt8)
  bl : List UInt8
  feed : Bool
def LongR.wt (L : LongR) : Nat := wtS L.ps + L.bl.length + 1
/-- A long line at a place. -/
def LongAt (w : World) (g o : Nat) (L : LongR) : Prop :=
  ∃ B c, w.cell? ⟨g, o, none⟩ = some (.slice B L.ps.length c) ∧ w.cell? ⟨g, o + 1, none⟩ = some (.string ⟨L.bl.toArray⟩) ∧ w.cell? ⟨g, o + 2, none⟩ = some (.bool L.feed) ∧ SL w B L.ps
/-- Lengths that are lengths. -/
def LongR.len (L : LongR) : Prop := (∀ l ∈ L.ps, l.length ≤ 9223372036854775807) ∧ L.ps.length ≤ 9223372036854775807 ∧ L.bl.length ≤ 9223372036854775807
theorem LongAt.below {w w' : World} {g o : Nat} {L : LongR} (h : LongAt w g o L) (hb : Below w.heap.size w w') : LongAt w' g o L := by
  obtain ⟨B, c, h1, h2, h3, h4⟩ := h
  exact ⟨B, c, (hb.cell (p := ⟨g, o, none⟩) (World.block_lt_of_cell? _ _ h1)).trans h1, (hb.cell (p := ⟨g, o + 1, none⟩) (World.block_lt_of_cell? _ _ h2)).trans h2, (hb.cell (p := ⟨g, o + 2, none⟩) (World.block_lt_of_cell? _ _ h3)).trans h3, h4.below hb⟩
/-- A slice's address under which long lines lie. -/
def LL (w : World) (A : Option Addr) (Ls : List LongR) : Prop :=
  Ls ≠ [] → ∃ g o, A = some ⟨g, o, none⟩ ∧ ∀ i L, Ls[i]? = some L → LongAt w g (o + i * 3) L
theorem LL.nil (w : World) (A : Option Addr) : LL w A [] := fun h => absurd rfl h
theorem LL.below {w w' : World} {A : Option Addr} {Ls : List LongR} (h : LL w A Ls) (hb : Below w.heap.size w w') : LL w' A Ls := by
  intro hne
  obtain ⟨g, o, he, hx⟩ := h hne
  exact ⟨g, o, he, fun i L hL => (hx i L hL).below hb⟩
set_option maxRecDepth 200000 in
/-- Three cells read as a long line. -/
theorem long_ofT {H : Type} {enc : TypeId × Value → H} {W : World} {fuel g o : Nat} {cs : List Value} {x : DataW H × List MemPlace} (hc : W.cells? 0 ⟨g, o, none⟩ 3 = some cs) (h : DataW.trod enc Tryd.prog W 0 (fun _ => true) true fuel 51 cs = some x) :
    ∃ L : LongR, LongAt W g o L ∧ L.len ∧ L.wt ≤ Rows.uptoBulk x.1 := by
  obtain ⟨_, hlen, hcell⟩ := World.cells?_some hc
  obtain ⟨y0, y1, y2, n, rfl, _, t0, t1, t2⟩ := Deep.trod_struct3 Tryd.underlying51 h
  match cs, hlen with
  | [v0, v1, v2], _ =>
    have k1 : Tryd.prog.cellsOf 28 = 1 := by kernel_rfl
    have k2 : Tryd.prog.cellsOf 9 = 1 := by kernel_rfl
    have k3 : Tryd.prog.cellsOf 4 = 1 := by kernel_rfl
    have e0 := hcell 0 (by omega)
    have e1 := hcell 1 (by omega)
    have e2 := hcell 2 (by omega)
    rw [add_addL] at e0 e1 e2
    simp only [k1, k2, k3] at t0 t1 t2
    obtain ⟨B, c, ls, rfl, hs, hl, hm, hw⟩ := strings_ofT (by simpa using t0)
    obtain ⟨bl, rfl, hbl, hbw⟩ := string_ofT (by simpa using t1)
    obtain ⟨f, rfl⟩ := bool_ofT Tryd.underlying4 (by simpa using t2)
    refine ⟨⟨ls, bl, f⟩, ⟨B, c, by simpa using e0, by simpa using e1, by simpa using e2, hs⟩, ⟨hl, hm, hbl⟩, ?_⟩
    show wtS ls + bl.length + 1 ≤ _
    rw [bulk_agg3]
    omega
set_option maxRecDepth 200000 in
/-- A slice of long lines that came in. -/
theorem open_longsV {H : Type} {enc : TypeId × Value → H} {W : World} {b0 : Nat} {v : Value} {d : DataW H} {p : List MemPlace} (hval : Value.okWide Tryd.prog W .any b0 48 v) (hd : DataW.Trod enc Tryd.prog W 0 (fun _ => true) true 48 v d p) :
    ∃ (A : Option Addr) (n c : Nat) (Ls : List LongR), v = .slice A n c ∧ n = Ls.length ∧ LL W A Ls ∧ (∀ L ∈ Ls, L.len) ∧ Ls.length ≤ 9223372036854775807 ∧ (Ls.map LongR.wt).sum ≤ Rows.uptoBulk d := by
  obtain ⟨A, n, c, rfl⟩ := okWide_slice Tryd.underlying48 hval
  obtain ⟨fuel, hf⟩ := hd
  have hc : Tryd.prog.cellsOf 51 = 3 := by kernel_rfl
  rcases Deep.open_slice Tryd.underlying48 hf with ⟨h, _⟩ | ⟨a, len, cap, m, fu, D, Pl, h, _, hl, hm, hmm, hxd, hx⟩
  · simp [Value.cells] at h
    obtain ⟨rfl, rfl, rfl⟩ := h
    exact ⟨none, 0, 0, [], rfl, rfl, LL.nil _ _, fun _ h => (by cases h), by decide, by simp⟩
  · simp [Value.cells] at h
    obtain ⟨rfl, rfl, rfl⟩ := h
    simp only [if_true] at hmm
    rw [hc] at hx
    simp only [Prod.mk.injEq] at hxd
    obtain ⟨rfl, _⟩ := hxd
    unfold maxLen at hm
    obtain ⟨g, off, spot⟩ := a
    by_cases hn0 : n = 0
    · subst hn0
      exact ⟨some ⟨g, off, spot⟩, 0, c, [], rfl, rfl, LL.nil _ _, fun _ h => (by cases h), by decide, by simp⟩
    · have hspot : spot = none := by
        obtain ⟨cs', h1, _⟩ := hx 0 (by omega)
        obtain ⟨_, hlen, hcell⟩ := World.cells?_some h1
        have := hcell 0 (by omega)
        have e : cs'[0]? = some (cs'[0]'(by omega)) := List.getElem?_eq_getElem _
        rw [e] at this
        simpa [Addr.add] using World.cell?_spot this
      subst hspot
      have each : ∀ i, i < n → ∃ L : LongR, LongAt W g (off + i * 3) L ∧ L.len ∧ L.wt ≤ Rows.uptoBulk (D i) := fun i hi => by
        obtain ⟨cs', h1, h2⟩ := hx i (by omega)
        rw [add_addL] at h1
        exact long_ofT h1 h2
      have : Inhabited LongR := ⟨⟨[], [], false⟩⟩
      obtain ⟨y, hy⟩ := Deep.choose_lt each
      refine ⟨some ⟨g, off, none⟩, n, c, (List.range n).map y, rfl, by simp, fun _ => ⟨g, off, rfl, fun i L hL => ?_⟩, fun L hL => ?_, by simp; omega, ?_⟩
      · have hi : i < n := by
          rcases Nat.lt_or_ge i n with h' | h'
          · exact h'
          · rw [List.getElem?_eq_none (by simpa using h')] at hL; cases hL
        rw [List.getElem?_map, List.getElem?_range hi] at hL
        injection hL with hL
        subst hL
        exact (hy i hi).1
      · obtain ⟨i, hi, rfl⟩ := List.mem_map.1 hL
        exact (hy i (by simpa using hi)).2.1
      · refine Nat.le_trans ?_ (bulk_slice _ _)
        rw [List.map_map]
        exact bulk_range _ _ n (fun i hi => (hy i hi).2.2)
end Go.Proofs.YteiiocibldpioaaDoor
