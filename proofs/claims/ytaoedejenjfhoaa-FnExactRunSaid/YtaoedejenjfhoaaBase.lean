/- Small words that all walks of this seat use: strings and bytes as lists, in the form in which the walk's own simp carries them on. No program is named. -/
import Derived.WalkKit
import Derived.WalkSpells
import Derived.Handy
import Derived.Lib.Hide
namespace Go.Proofs.Ytaoedejenjfhoaa
open Go.RowKit

theorem ret_bool {a b : Bool} (h : a = b) : Ending.returned (.bool a) = .returned (.bool b) := by rw [h]
theorem ret_string {a b : ByteArray} (h : a = b) : Ending.returned (.string a) = .returned (.string b) := by rw [h]
theorem ret_str {a b : List UInt8} (h : a = b) : Ending.returned (.string ⟨a.toArray⟩) = .returned (.string ⟨b.toArray⟩) := by rw [h]
theorem ret_int {k : IntKind} {a b : Int} (h : a = b) : Ending.returned (.int k a) = .returned (.int k b) := by rw [h]

theorem results_tmp4 {fn : Func} {t u v x : Tmp} (h : fn.results = #[.tmp t, .tmp u, .tmp v, .tmp x]) (tmps : Array Value) (P : Program) (w : World) :
    (results fn tmps).run P w = .ok (.tuple #[tmps.getD t undef, tmps.getD u undef, tmps.getD v undef, tmps.getD x undef]) w := by
  simp [results, h]
theorem byte_le (b : UInt8) : (b.toNat : Int) ≤ 255 := by have := b.toNat_lt; omega
theorem byte_eq_iff (a b : UInt8) : (a.toNat : Int) = b.toNat ↔ a = b := by
  constructor
  · intro h; exact UInt8.toNat_inj.1 (by omega)
  · intro h; rw [h]

/-- A string's part, as a list. -/
theorem mk_extract (l : List UInt8) (a b : Nat) : (ByteArray.mk l.toArray).extract a b = ByteArray.mk ((l.take b).drop a).toArray := by
  apply ByteArray.ext
  simp [List.drop_take]
/-- A string's byte, as a list's. -/
theorem mk_getElem (l : List UInt8) (i : Nat) (h : i < (ByteArray.mk l.toArray).size) : (ByteArray.mk l.toArray)[i]'h = l[i]'h := rfl
theorem mk_append (a b : List UInt8) : ByteArray.mk a.toArray ++ ByteArray.mk b.toArray = ByteArray.mk (a ++ b).toArray := by
  apply ByteArray.ext
  simp
theorem mk_size (l : List UInt8) : (ByteArray.mk l.toArray).size = l.length := rfl
theorem mk_of (s : ByteArray) : s = ByteArray.mk s.data.toList.toArray := by cases s; simp
attribute [go_sem] mk_extract mk_getElem mk_append mk_size

/-- The length that stands in a slot: for a measure. -/
def lenOf : Value → Nat | .string s => s.size | .slice _ n _ => n | _ => 0
theorem lenOf_str (l : List UInt8) : lenOf (.string ⟨l.toArray⟩) = l.length := rfl
theorem lenOf_slice (a : Option Addr) (n c : Nat) : lenOf (.slice a n c) = n := rfl

/-- A slice's address under which the bytes l lie (of an empty slice nothing is said). -/
def RB (w : World) (A : Option Addr) (l : List UInt8) : Prop :=
  l ≠ [] → ∃ g o, A = some ⟨g, o, none⟩ ∧ ∀ i u, l[i]? = some u → w.cell? ⟨g, o + i, none⟩ = some (.int .u8 u.toNat)
theorem RB.nil (w : World) (A : Option Addr) : RB w A [] := fun h => absurd rfl h
theorem RB.lt {w : World} {A : Option Addr} {l : List UInt8} (h : RB w A l) (hne : l ≠ []) : ∃ g o, A = some ⟨g, o, none⟩ ∧ g < w.heap.size := by
  obtain ⟨g, o, he, hx⟩ := h hne
  rcases l with _ | ⟨b, t⟩
  · exact absurd rfl hne
  · exact ⟨g, o, he, World.block_lt_of_cell? _ _ (hx 0 b rfl)⟩
theorem RB.same {w w' : World} {A : Option Addr} {l : List UInt8} (h : RB w A l) (hb : ∀ g o, A = some ⟨g, o, none⟩ → g < w.heap.size → w'.heap[g]? = w.heap[g]?) : RB w' A l := by
  intro hne
  obtain ⟨g, o, he, hx⟩ := h hne
  obtain ⟨g', o', he', hlt⟩ := h.lt hne
  rw [he] at he'
  injection he' with he'; injection he' with h1 h2; subst h1; subst h2
  exact ⟨g, o, he, fun i u hu => (World.cell?_of_block (w := w) (a := ⟨g, o + i, none⟩) (hb g o he hlt)).trans (hx i u hu)⟩
theorem RB.below {w w' : World} {A : Option Addr} {l : List UInt8} (h : RB w A l) (hb : Below w.heap.size w w') : RB w' A l :=
  h.same fun g _ _ hlt => hb.block g hlt
/-- The slice without its first byte. -/
theorem RB.tail {w : World} {g o c : Nat} {b : UInt8} {t : List UInt8} (h : RB w (some ⟨g, o, none⟩) (b :: t)) (hc : t.length + 1 ≤ c) :
    RB w (if c = 1 then some ⟨g, o, none⟩ else some ⟨g, o + 1, none⟩) t := by
  intro hne
  obtain ⟨g', o', he, hx⟩ := h (by simp)
  injection he with he; injection he with h1 h2; subst h1; subst h2
  have hl : 0 < t.length := List.length_pos_iff.2 hne
  rw [if_neg (by omega)]
  refine ⟨_, _, rfl, fun i u hu => ?_⟩
  rw [show o + 1 + i = o + (i + 1) from by omega]
  exact hx (i + 1) u (by simpa using hu)
/-- A first part of the slice. -/
theorem RB.left {w : World} {A : Option Addr} {a b : List UInt8} (h : RB w A (a ++ b)) : RB w A a := by
  intro hne
  obtain ⟨g, o, he, hx⟩ := h (by simp [hne])
  refine ⟨g, o, he, fun i u hu => hx i u ?_⟩
  rw [List.getElem?_append_left (by
    rcases Nat.lt_or_ge i a.length with h' | h'
    · exact h'
    · rw [List.getElem?_eq_none h'] at hu; cases hu)]
  exact hu

/-- What comes back is a slice that reads as l. -/
def RetB (w : World) (l : List UInt8) (e : Ending) : Prop := ∃ A c, e = .returned (.slice A l.length c) ∧ l.length ≤ c ∧ c ≤ 9223372036854775807 ∧ RB w A l
theorem RetB.mk {w : World} {l l' : List UInt8} {A : Option Addr} {c : Nat} (h : l = l') (h1 : l.length ≤ c) (h2 : c ≤ 9223372036854775807) (hr : RB w A l) :
    RetB w l' (.returned (.slice A l.length c)) := by subst h; exact ⟨A, c, rfl, h1, h2, hr⟩

/-- n cells of block g from o on hold the numbers f, and may be written. -/
def Row (w : World) (g o n : Nat) (f : Nat → Int) : Prop :=
  ∀ i, i < n → w.cell? ⟨g, o + i, none⟩ = some (.int .u8 (f i)) ∧ w.frozen? ⟨g, o + i, none⟩ = false
theorem Row.cell {w : World} {g o n : Nat} {f : Nat → Int} (h : Row w g o n f) {i : Nat} (hi : i < n) : w.cell? ⟨g, o + i, none⟩ = some (.int .u8 (f i)) := (h i hi).1
theorem Row.free {w : World} {g o n : Nat} {f : Nat → Int} (h : Row w g o n f) {i : Nat} (hi : i < n) : w.frozen? ⟨g, o + i, none⟩ = false := (h i hi).2
theorem Row.set {w : World} {g o n : Nat} {f f' : Nat → Int} (h : Row w g o n f) {k : Nat} (hk : k < n) (x : Int) (hx : f' k = x) (hf : ∀ i, i < n → i ≠ k → f' i = f i) :
    Row (w.setCell ⟨g, o + k, none⟩ (.int .u8 x)) g o n f' := by
  intro i hi
  refine ⟨?_, by rw [World.frozen?_setCell]; exact h.free hi⟩
  by_cases hik : i = k
  · subst hik
    rw [World.cell?_setCell_same _ _ _ (h.cell hi), hx]
  · rw [World.cell?_setCell_other _ _ _ _ (by intro he; injection he with _ he; omega), h.cell hi, hf i hi hik]
theorem Row.same {w : World} {g o n : Nat} {f f' : Nat → Int} (h : Row w g o n f) (hf : ∀ i, i < n → f' i = f i) : Row w g o n f' :=
  fun i hi => by rw [hf i hi]; exact h i hi
theorem Row.of_same {w w' : World} {g o n : Nat} {f : Nat → Int} (h : Row w g o n f) (hb : w'.heap[g]? = w.heap[g]?) : Row w' g o n f := by
  intro i hi
  obtain ⟨h1, h2⟩ := h i hi
  exact ⟨(World.cell?_of_block (w := w) (a := ⟨g, o + i, none⟩) hb).trans h1, (World.frozen?_of_block (w := w) (a := ⟨g, o + i, none⟩) hb).trans h2⟩

/-- From w to w' only cells lo to hi of block g have been written. -/
structure Wrote (g lo hi : Nat) (w w' : World) : Prop where
  os : w'.os = w.os
  tape : w'.tape = w.tape
  output : w'.output = w.output
  size : w'.heap.size = w.heap.size
  block : ∀ k, k ≠ g → w'.heap[k]? = w.heap[k]?
  cell : ∀ i, i < lo ∨ hi ≤ i → w'.cell? ⟨g, i, none⟩ = w.cell? ⟨g, i, none⟩
  row : ∀ cs e fr, w.heap[g]? = some (.cells cs e fr) → ∃ cs', w'.heap[g]? = some (.cells cs' e fr) ∧ cs'.size = cs.size
theorem Wrote.refl (g lo hi : Nat) (w : World) : Wrote g lo hi w w := ⟨rfl, rfl, rfl, rfl, fun _ _ => rfl, fun _ _ => rfl, fun cs _ _ h => ⟨cs, h, rfl⟩⟩
theorem Wrote.setCell {g lo hi i : Nat} {w w' : World} (h : Wrote g lo hi w w') (h1 : lo ≤ i) (h2 : i < hi) (v : Value) : Wrote g lo hi w (w'.setCell ⟨g, i, none⟩ v) := by
  refine ⟨h.os, h.tape, h.output, (World.size_setCell _ _ _).trans h.size, fun k hk => (Below.heap_setCell _ _ _ _ hk).trans (h.block k hk), fun j hj => ?_, fun cs e fr hc => ?_⟩
  · rw [World.cell?_setCell_other _ _ _ _ (by intro he; injection he with _ he; omega)]
    exact h.cell j hj
  · obtain ⟨cs', hc', hs⟩ := h.row cs e fr hc
    refine ⟨cs'.setIfInBounds i v, ?_, by simpa using hs⟩
    simp [World.setCell, Array.getElem?_modify, hc']
theorem Wrote.below {g lo hi B : Nat} {w w' : World} (h : Wrote g lo hi w w') (hB : B ≤ g) : Below B w w' :=
  ⟨h.os, h.tape, h.output, Nat.le_of_eq h.size.symm, fun k hk => h.block k (by omega)⟩
theorem Wrote.drew {g lo hi : Nat} {w w' : World} (h : Wrote g lo hi w w') : Wrote g lo hi w w'.drew := ⟨h.os, h.tape, h.output, h.size, h.block, h.cell, h.row⟩
end Go.Proofs.Ytaoedejenjfhoaa
