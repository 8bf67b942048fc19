/- Small words that all walks of this seat use: strings and bytes as lists, in the form in which the walk's own simp carries them on. No program is named. | The error values of this program: the package's sentinels (variables that hold pointers to errors of their own), the errors of the protocol and of a status, and nil. What the row's laid list says of the sentinels, and what == answers of two of them. | The frame of every law of this seat's cards: the call answers true, nothing that was there has turned: then the row's 'post' holds; and the world by which the row's 'there is an input that fits' is shown. No program is walked here. | Dot encoding, read: the machine of a dotReader over the bytes that are left, in plain Lean; what it gives of a block of lines, of a beginning of one. No program is named. | Slices of strings that are read, and the walk of the reference's Dotless. | The walks of the reference's Printable, Bare and Blanks. | The conversions between strings and bytes, as a walk meets them: a new block that reads as the string; a string of the bytes that a row holds. | Slices of bytes that the call itself owns, and appends onto them: from a slice that reads as a list (nil let in), from a string. | Slices of strings that the call itself owns, and appends onto them. | The walks of the bounds and of the reference's DotText, of lists of strings. | The error values of this program, and which number the function 'state' gives to each. | Arguments that are slices, opened: of bytes; what the row's reading says of their cells. | What the bound on the bulk of what is read gives. | Arguments that are slices of long lines, opened. -/
import Derived.WalkKit
import Derived.WalkSpells
import Derived.Handy
import Derived.Lib.Hide
import Derived.Test.YtilhgjcjofobeaaDoorRows
import Derived.Stop.LaidTwo
import Derived.Stop.Asserts
import Derived.MakeChecks
import Derived.LaidSub
import Derived.Test.YtilhgjcjofobeaaDoorCards
import Derived.Test.YtilhgjcjofobeaaDoorTie
import Derived.ProofKit
import Derived.OpenShut
import Derived.OpenVars
import Derived.JoinedCond
import Derived.Deep.DeepHandedRow
import Derived.Lay
import Derived.SevenTiedAt
import Derived.Outline
import Derived.Deep.DeepCutAuto
import Derived.Laws.IdiomStrings
import Derived.Maps.AppendAt
import Derived.Lib.AppendStr
import Derived.WalkArith
import Derived.ChangeSlices
import Derived.Deep.Slices
import Derived.Deep.Strs
namespace Go.Proofs.YtilhgjcjofobeaaDoor
open Go.RowKit

theorem ret_bool {a b : Bool} (h : a = b) : Ending.returned (.bool a) = .returned (.bool b) := by rw [h]
theorem ret_string {a b : ByteArray} (h : a = b) : Ending.returned (.string a) = .returned (.string b) := by rw [h]
theorem ret_str {a b : List UInt8} (h : a = b) : Ending.returned (.string ⟨a.toArray⟩) = .returned (.string ⟨b.toArray⟩) := by rw [h]
theorem ret_int {k : IntKind} {a b : Int} (h : a = b) : Ending.returned (.int k a) = .returned (.int k b) := by rw [h]

theorem results_tmp4 {fn : Func} {t u v x : Tmp} (h : fn.results = #[.tmp t, .tmp u, .tmp v, .tmp x]) (tmps : Array Value) (P : Program) (w : World) :
    (results fn tmps).run P w = .ok (.tuple #[tmps.getD t undef, tmps.getD u undef, tmps.getD v undef, tmps.getD x undef]) w := by
  simp [results, h]
theorem byte_le (b : UInt8) : (b.toNat : Int) ≤ 255 := by have := b.toNat_lt; omega
theorem byte_eq_iff (a b : UInt8) : (a.toNat : Int) = b.toNat ↔ a = b := by
  constructor
  · intro h; exact UInt8.toNat_inj.1 (by omega)
  · intro h; rw [h]

/-- A string's part, as a list. -/
theorem mk_extract (l : List UInt8) (a b : Nat) : (ByteArray.mk l.toArray).extract a b = ByteArray.mk ((l.take b).drop a).toArray := by
  apply ByteArray.ext
  simp [List.drop_take]
/-- A string's byte, as a list's. -/
theorem mk_getElem (l : List UInt8) (i : Nat) (h : i < (ByteArray.mk l.toArray).size) : (ByteArray.mk l.toArray)[i]'h = l[i]'h := rfl
theorem mk_append (a b : List UInt8) : ByteArray.mk a.toArray ++ ByteArray.mk b.toArray = ByteArray.mk (a ++ b).toArray := by
  apply ByteArray.ext
  simp
theorem mk_size (l : List UInt8) : (ByteArray.mk l.toArray).size = l.length := rfl
theorem mk_of (s : ByteArray) : s = ByteArray.mk s.data.toList.toArray := by cases s; simp
attribute [go_sem] mk_extract mk_getElem mk_append mk_size

/-- The length that stands in a slot: for a measure. -/
def lenOf : Value → Nat | .string s => s.size | .slice _ n _ => n | _ => 0
theorem lenOf_str (l : List UInt8) : lenOf (.string ⟨l.toArray⟩) = l.length := rfl
theorem lenOf_slice (a : Option Addr) (n c : Nat) : lenOf (.slice a n c) = n := rfl

/-- A slice's address under which the bytes l lie (of an empty slice nothing is said). -/
def RB (w : World) (A : Option Addr) (l : List UInt8) : Prop :=
  l ≠ [] → ∃ g o, A = some ⟨g, o, none⟩ ∧ ∀ i u, l[i]? = some u → w.cell? ⟨g, o + i, none⟩ = some (.int .u8 u.toNat)
theorem RB.nil (w : World) (A : Option Addr) : RB w A [] := fun h => absurd rfl h
theorem RB.lt {w : World} {A : Option Addr} {l : List UInt8} (h : RB w A l) (hne : l ≠ []) : ∃ g o, A = some ⟨g, o, none⟩ ∧ g < w.heap.size := by
  obtain ⟨g, o, he, hx⟩ := h hne
  rcases l with _ | ⟨b, t⟩
  · exact absurd rfl hne
  · exact ⟨g, o, he, World.block_lt_of_cell? _ _ (hx 0 b rfl)⟩
theorem RB.same {w w' : World} {A : Option Addr} {l : List UInt8} (h : RB w A l) (hb : ∀ g o, A = some ⟨g, o, none⟩ → g < w.heap.size → w'.heap[g]? = w.heap[g]?) : RB w' A l := by
  intro hne
  obtain ⟨g, o, he, hx⟩ := h hne
  obtain ⟨g', o', he', hlt⟩ := h.lt hne
  rw [he] at he'
  injection he' with he'; injection he' with h1 h2; subst h1; subst h2
  exact ⟨g, o, he, fun i u hu => (World.cell?_of_block (w := w) (a := ⟨g, o + i, none⟩) (hb g o he hlt)).trans (hx i u hu)⟩
theorem RB.below {w w' : World} {A : Option Addr} {l : List UInt8} (h : RB w A l) (hb : Below w.heap.size w w') : RB w' A l :=
  h.same fun g _ _ hlt => hb.block g hlt
/-- The slice without its first byte. -/
theorem RB.tail {w : World} {g o c : Nat} {b : UInt8} {t : List UInt8} (h : RB w (some ⟨g, o, none⟩) (b :: t)) (hc : t.length + 1 ≤ c) :
    RB w (if c = 1 then some ⟨g, o, none⟩ else some ⟨g, o + 1, none⟩) t := by
  intro hne
  obtain ⟨g', o', he, hx⟩ := h (by simp)
  injection he with he; injection he with h1 h2; subst h1; subst h2
  have hl : 0 < t.length := List.length_pos_iff.2 hne
  rw [if_neg (by omega)]
  refine ⟨_, _, rfl, fun i u hu => ?_⟩
  rw [show o + 1 + i = o + (i + 1) from by omega]
  exact hx (i + 1) u (by simpa using hu)
/-- A first part of the slice. -/
theorem RB.left {w : World} {A : Option Addr} {a b : List UInt8} (h : RB w A (a ++ b)) : RB w A a := by
  intro hne
  obtain ⟨g, o, he, hx⟩ := h (by simp [hne])
  refine ⟨g, o, he, fun i u hu => hx i u ?_⟩
  rw [List.getElem?_append_left (by
    rcases Nat.lt_or_ge i a.length with h' | h'
    · exact h'
    · rw [List.getElem?_eq_none h'] at hu; cases hu)]
  exact hu

/-- What comes back is a slice that reads as l. -/
def RetB (w : World) (l : List UInt8) (e : Ending) : Prop := ∃ A c, e = .returned (.slice A l.length c) ∧ l.length ≤ c ∧ c ≤ 9223372036854775807 ∧ RB w A l
theorem RetB.mk {w : World} {l l' : List UInt8} {A : Option Addr} {c : Nat} (h : l = l') (h1 : l.length ≤ c) (h2 : c ≤ 9223372036854775807) (hr : RB w A l) :
    RetB w l' (.returned (.slice A l.length c)) := by subst h; exact ⟨A, c, rfl, h1, h2, hr⟩

/-- n cells of block g from o on hold the numbers f, and may be written. -/
def Row (w : World) (g o n : Nat) (f : Nat → Int) : Prop :=
  ∀ i, i < n → w.cell? ⟨g, o + i, none⟩ = some (.int .u8 (f i)) ∧ w.frozen? ⟨g, o + i, none⟩ = false
theorem Row.cell {w : World} {g o n : Nat} {f : Nat → Int} (h : Row w g o n f) {i : Nat} (hi : i < n) : w.cell? ⟨g, o + i, none⟩ = some (.int .u8 (f i)) := (h i hi).1
theorem Row.free {w : World} {g o n : Nat} {f : Nat → Int} (h : Row w g o n f) {i : Nat} (hi : i < n) : w.frozen? ⟨g, o + i, none⟩ = false := (h i hi).2
theorem Row.set {w : World} {g o n : Nat} {f f' : Nat → Int} (h : Row w g o n f) {k : Nat} (hk : k < n) (x : Int) (hx : f' k = x) (hf : ∀ i, i < n → i ≠ k → f' i = f i) :
    Row (w.setCell ⟨g, o + k, none⟩ (.int .u8 x)) g o n f' := by
  intro i hi
  refine ⟨?_, by rw [World.frozen?_setCell]; exact h.free hi⟩
  by_cases hik : i = k
  · subst hik
    rw [World.cell?_setCell_same _ _ _ (h.cell hi), hx]
  · rw [World.cell?_setCell_other _ _ _ _ (by intro he; injection he with _ he; omega), h.cell hi, hf i hi hik]
theorem Row.same {w : World} {g o n : Nat} {f f' : Nat → Int} (h : Row w g o n f) (hf : ∀ i, i < n → f' i = f i) : Row w g o n f' :=
  fun i hi => by rw [hf i hi]; exact h i hi
theorem Row.of_same {w w' : World} {g o n : Nat} {f : Nat → Int} (h : Row w g o n f) (hb : w'.heap[g]? = w.heap[g]?) : Row w' g o n f := by
  intro i hi
  obtain ⟨h1, h2⟩ := h i hi
  exact ⟨(World.cell?_of_block (w := w) (a := ⟨g, o + i, none⟩) hb).trans h1, (World.frozen?_of_block (w := w) (a := ⟨g, o + i, none⟩) hb).trans h2⟩

/-- From w to w' only cells lo to hi of block g have been written. -/
structure Wrote (g lo hi : Nat) (w w' : World) : Prop where
  os : w'.os = w.os
  tape : w'.tape = w.tape
  output : w'.output = w.output
  size : w'.heap.size = w.heap.size
  block : ∀ k, k ≠ g → w'.heap[k]? = w.heap[k]?
  cell : ∀ i, i < lo ∨ hi ≤ i → w'.cell? ⟨g, i, none⟩ = w.cell? ⟨g, i, none⟩
  row : ∀ cs e fr, w.heap[g]? = some (.cells cs e fr) → ∃ cs', w'.heap[g]? = some (.cells cs' e fr) ∧ cs'.size = cs.size
theorem Wrote.refl (g lo hi : Nat) (w : World) : Wrote g lo hi w w := ⟨rfl, rfl, rfl, rfl, fun _ _ => rfl, fun _ _ => rfl, fun cs _ _ h => ⟨cs, h, rfl⟩⟩
theorem Wrote.setCell {g lo hi i : Nat} {w w' : World} (h : Wrote g lo hi w w') (h1 : lo ≤ i) (h2 : i < hi) (v : Value) : Wrote g lo hi w (w'.setCell ⟨g, i, none⟩ v) := by
  refine ⟨h.os, h.tape, h.output, (World.size_setCell _ _ _).trans h.size, fun k hk => (Below.heap_setCell _ _ _ _ hk).trans (h.block k hk), fun j hj => ?_, fun cs e fr hc => ?_⟩
  · rw [World.cell?_setCell_other _ _ _ _ (by intro he; injection he with _ he; omega)]
    exact h.cell j hj
  · obtain ⟨cs', hc', hs⟩ := h.row cs e fr hc
    refine ⟨cs'.setIfInBounds i v, ?_, by simpa using hs⟩
    simp [World.setCell, Array.getElem?_modify, hc']
theorem Wrote.below {g lo hi B : Nat} {w w' : World} (h : Wrote g lo hi w w') (hB : B ≤ g) : Below B w w' :=
  ⟨h.os, h.tape, h.output, Nat.le_of_eq h.size.symm, fun k hk => h.block k (by omega)⟩
theorem Wrote.drew {g lo hi : Nat} {w w' : World} (h : Wrote g lo hi w w') : Wrote g lo hi w w'.drew := ⟨h.os, h.tape, h.output, h.size, h.block, h.cell, h.row⟩
end Go.Proofs.YtilhgjcjofobeaaDoor
namespace Go.Proofs.YtilhgjcjofobeaaDoor
open Go.RowKit

/-- The variable g holds an error of its own: a pointer to a. -/
structure Sen (w : World) (g : Nat) (a : Addr) : Prop where
  cell : w.cell? ⟨g, 0, none⟩ = some (.iface 136 (.pointer (some a)))
  row : ∃ c t, w.heap[a.block]? = some (.cells c t (0, 0))
theorem Sen.of_blocks {w w' : World} {g : Nat} {a : Addr} (h : Sen w g a) (h1 : w'.heap[g]? = w.heap[g]?) (h2 : w'.heap[a.block]? = w.heap[a.block]?) : Sen w' g a := by
  refine ⟨(World.cell?_of_block (w := w) (a := ⟨g, 0, none⟩) h1).trans h.cell, ?_⟩
  rw [h2]; exact h.row
theorem Sen.lt {w : World} {g : Nat} {a : Addr} (h : Sen w g a) : g < w.heap.size := World.block_lt_of_cell? _ _ h.cell
theorem Sen.lt' {w : World} {g : Nat} {a : Addr} (h : Sen w g a) : a.block < w.heap.size := by
  obtain ⟨c, t, hr⟩ := h.row
  exact (Array.getElem?_eq_some_iff.1 hr).1

/-- The variables gs hold errors of their own, no two of them the same. -/
structure Sens (w : World) (E : Nat → Addr) (gs : List Nat) : Prop where
  sen : ∀ g ∈ gs, Sen w g (E g)
  inj : (gs.map E).Nodup
theorem Sens.ne {w : World} {E : Nat → Addr} {gs : List Nat} (h : Sens w E gs) {g k : Nat} (hg : g ∈ gs) (hk : k ∈ gs) (hne : g ≠ k) : E g ≠ E k := by
  have hi := h.inj
  clear h
  induction gs with
  | nil => cases hg
  | cons x r ih =>
    rw [List.map_cons, List.nodup_cons] at hi
    rcases List.mem_cons.1 hg with rfl | hg'
    · rcases List.mem_cons.1 hk with rfl | hk'
      · exact absurd rfl hne
      · intro e
        exact hi.1 (e ▸ List.mem_map_of_mem hk')
    · rcases List.mem_cons.1 hk with rfl | hk'
      · intro e
        exact hi.1 (e ▸ List.mem_map_of_mem hg')
      · exact ih hg' hk' hi.2
theorem Sens.below {w w' : World} {E : Nat → Addr} {gs : List Nat} (h : Sens w E gs) (hb : Below w.heap.size w w') : Sens w' E gs :=
  ⟨fun g hg => (h.sen g hg).of_blocks (hb.block _ (h.sen g hg).lt) (hb.block _ (h.sen g hg).lt'), h.inj⟩
theorem Sens.of_blocks {w w' : World} {E : Nat → Addr} {gs : List Nat} (h : Sens w E gs) (hb : ∀ g ∈ gs, w'.heap[g]? = w.heap[g]? ∧ w'.heap[(E g).block]? = w.heap[(E g).block]?) : Sens w' E gs :=
  ⟨fun g hg => (h.sen g hg).of_blocks (hb g hg).1 (hb g hg).2, h.inj⟩

/-- What a variable points at. -/
def senAt (w : World) (g : Nat) : Addr := match w.cell? ⟨g, 0, none⟩ with | some (.iface _ (.pointer (some a))) => a | _ => ⟨0, 0, none⟩
theorem senAt_eq {w : World} {g : Nat} {a : Addr} {t : TypeId} (h : w.cell? ⟨g, 0, none⟩ = some (.iface t (.pointer (some a)))) : senAt w g = a := by
  unfold senAt; rw [h]

theorem Tryd.es_ti : Tryd.prog.underlying 47 = some (.interface #[("Error", 41)]) := Tryd.underlying47
theorem Tryd.es_star : "*" ++ "errors.errorString" = "*errors.errorString" := by decide
theorem Tryd.es_hrow (u : TypeId) (h : Tryd.prog.typeName? 3 u = some "*errors.errorString") : u = 136 :=
  typeName_ptr_named (nm := "errors.errorString") (by rw [Tryd.es_star]; kernel_rfl) (by kernel_rfl) (by decide) u (by rw [Tryd.es_star]; exact h)

/-- A listed variable is a sentinel. -/
def isSent (x : String × DataW Unit) : Bool := match x.2 with | .iface nm (.ptr (.agg [.lit (.string _)])) => nm == "*errors.errorString" | _ => false
def gOf (P : Program) (x : String × DataW Unit) : Nat := (P.globalNamed x.1).getD 0
theorem isSent_eq {x : String × DataW Unit} (h : isSent x = true) : ∃ n text, x = (n, .iface "*errors.errorString" (.ptr (.agg [.lit (.string text)]))) := by
  obtain ⟨n, d⟩ := x
  unfold isSent at h
  split at h
  · rename_i nm text hd
    simp only at hd
    subst hd
    exact ⟨n, text, by rw [beq_iff_eq.1 h]⟩
  · cases h

set_option maxRecDepth 100000 in
open Go.ChangeShapes in
theorem sens_vars {W : World} : ∀ {l : List (String × DataW Unit)} {ps : List MemPlace}, DataW.LaidVars Tryd.prog W l ps → ps.Nodup →
    (∀ b off, MemPlace.cell b off ∈ ps → (∃ c t, W.heap[b]? = some (.cells c t (0, 0))) ∧ ∀ u v, W.cell? ⟨b, off, none⟩ = some (.iface u v) → Value.okWide Tryd.prog W .any 0 u v) →
    (l.all fun x => !isSent x || ((Tryd.prog.globals[gOf Tryd.prog x]?).map (·.type) == some 47)) = true →
    (∀ g ∈ (l.filter isSent).map (gOf Tryd.prog), Sen W g (senAt W g) ∧ MemPlace.cell (senAt W g).block (senAt W g).off ∈ ps) ∧ (((l.filter isSent).map (gOf Tryd.prog)).map (senAt W)).Nodup
  | [], _, _, _, _, _ => ⟨fun _ h => by simp at h, by simp⟩
  | x :: r, ps, h, hnd, hrows, hall => by
    obtain ⟨n, d⟩ := x
    obtain ⟨g0, t0, cs0, f0, p0, q0, hg0, ht0, hv0, hd0, hq, rfl⟩ := h
    rw [List.nodup_append] at hnd
    obtain ⟨hnd0, hndq, hdis⟩ := hnd
    simp only [List.all_cons, Bool.and_eq_true] at hall
    obtain ⟨ih, ihn⟩ := sens_vars hq hndq (fun b off hm => hrows b off (List.mem_append_right _ hm)) hall.2
    by_cases hs : isSent (n, d) = true
    · obtain ⟨n', text, he⟩ := isSent_eq hs
      injection he with e1 e2
      subst e1; subst e2
      have hg : gOf Tryd.prog (n, .iface "*errors.errorString" (.ptr (.agg [.lit (.string text)]))) = g0 := by unfold gOf; rw [hg0]; rfl
      have ht : (Tryd.prog.globals[g0]?).map (·.type) = some 47 := by
        have := hall.1
        rw [hs, hg] at this
        simpa using this
      have ht' : t0 = 47 := (Option.some.inj (ht.symm.trans ht0)).symm
      subst ht'
      obtain ⟨l0⟩ := cs0
      have ok0 : ∀ u v, l0 = [.iface u v] → Value.okWide Tryd.prog W .any 0 u v := fun u v e => by
        subst e
        exact (hrows g0 0 (by simp [MemPlace.row])).2 u v (by simpa using World.var?_cell hg0 hv0 0)
      obtain ⟨a0, s0, rfl, hc0, hs0, hz0, rfl⟩ := errorString_of_trod Tryd.es_ti Tryd.es_hrow Tryd.underlying136 Tryd.underlying138 rfl rfl Tryd.underlying9 (by kernel_rfl) (by kernel_rfl) hd0 ok0
      have hcell : W.cell? ⟨g0, 0, none⟩ = some (.iface 136 (.pointer (some a0))) := by simpa using World.var?_cell hg0 hv0 0
      have hat : senAt W g0 = a0 := senAt_eq hcell
      have hmem : MemPlace.cell a0.block a0.off ∈ MemPlace.row a0 1 := by simp [MemPlace.row]
      rw [List.filter_cons_of_pos hs]
      simp only [List.map_cons, hg, List.mem_cons, List.nodup_cons, hat]
      refine ⟨fun g hgm => ?_, fun hm => ?_, ihn⟩
      · rcases hgm with rfl | hgm
        · rw [hat]
          exact ⟨⟨hcell, (hrows a0.block a0.off (List.mem_append_left _ (List.mem_append_right _ hmem))).1⟩, List.mem_append_left _ (List.mem_append_right _ hmem)⟩
        · exact ⟨(ih g hgm).1, List.mem_append_right _ (ih g hgm).2⟩
      · obtain ⟨k, hk, hke⟩ := List.mem_map.1 hm
        have := (ih k hk).2
        rw [hke] at this
        exact hdis _ (List.mem_append_right _ hmem) _ this rfl
    · rw [List.filter_cons_of_neg hs]
      exact ⟨fun g hgm => ⟨(ih g hgm).1, List.mem_append_right _ (ih g hgm).2⟩, ihn⟩

/-- What the row's list says of the sentinels. -/
theorem sens_of_laid {W : World} {l : List (String × DataW Unit)} {gs : List Nat} (h : laidMetH Tryd.prog l W) (hp : (l.all fun x => x.2.handleName?.isNone) = true)
    (hall : (l.all fun x => !isSent x || ((Tryd.prog.globals[gOf Tryd.prog x]?).map (·.type) == some 47)) = true) (hgs : (l.filter isSent).map (gOf Tryd.prog) = gs) : Sens W (senAt W) gs := by
  rw [MakeChecks.laidMetH_plain _ _ _ hp] at h
  obtain ⟨ps, hv, hnd, hrows⟩ := h
  obtain ⟨h1, h2⟩ := sens_vars hv hnd hrows hall
  rw [hgs] at h1 h2
  exact ⟨fun g hg => (h1 g hg).1, h2⟩
theorem Sens.sub {w : World} {E : Nat → Addr} {gs : List Nat} (h : Sens w E gs) : ∀ {gs' : List Nat}, (∀ g ∈ gs', g ∈ gs) → gs'.Nodup → Sens w E gs'
  | [], _, _ => ⟨fun _ h => (by cases h), List.nodup_nil⟩
  | x :: r, hs, hn => by
    rw [List.nodup_cons] at hn
    have ih := Sens.sub h (fun g hg => hs g (List.mem_cons_of_mem _ hg)) hn.2
    refine ⟨fun g hg => h.sen g (hs g hg), ?_⟩
    rw [List.map_cons, List.nodup_cons]
    refine ⟨fun hm => ?_, ih.inj⟩
    obtain ⟨k, hk, hke⟩ := List.mem_map.1 hm
    exact h.ne (hs k (List.mem_cons_of_mem _ hk)) (hs x (List.mem_cons_self ..)) (fun e => hn.1 (e ▸ hk)) hke
end Go.Proofs.YtilhgjcjofobeaaDoor
namespace Go.Proofs.YtilhgjcjofobeaaDoor
open Go.ChangeShapes Go.WideShapes Go.ChangeAt Go.RowKit

theorem Tryd.own : ownKnob Tryd.prog.godebug = none := by kernel_rfl
theorem Tryd.laidOut : laidOutB Tryd.prog = true := by kernel_rfl

/-- The arguments read behind the call as they read before. -/
theorem stays_all {H : Type} {enc : TypeId × Value → H} {P : Program} (hl : laidOutB P = true) {W W' : World} (hb : Below W.heap.size W W') :
    ∀ {ts : List TypeId} {vs : List Value} {ds : List (DataW H)} {ps : List MemPlace}, (ts.all fun t => P.readableRec t && decide (t < P.types.size)) = true →
      DataW.TrodAll enc P W 0 (fun _ => true) true ts vs ds ps → (∀ x ∈ ps, x.block < W.heap.size) → DataW.TrodAll enc P W' 0 (fun b => decide (b < W.heap.size)) true ts vs ds ps
  | [], _, _, _, _, h, _ => by
    obtain ⟨rfl, rfl, rfl⟩ := trodAll_nil h
    exact trodAll_mk0
  | t :: ts, _, _, _, ht, h, hlt => by
    obtain ⟨v, vs', d, ds', p, q, rfl, rfl, rfl, h1, h2⟩ := trodAll_cons h
    simp only [List.all_cons, Bool.and_eq_true, decide_eq_true_eq] at ht
    exact trodAll_cons_mk (Below.trod hl ht.1.1 ht.1.2 h1 hb (fun x hx => hlt x (List.mem_append_left _ hx)))
      (stays_all hl hb ht.2 h2 (fun x hx => hlt x (List.mem_append_right _ hx)))

/-- A law's end: the call has answered true, and nothing that was there has turned. -/
theorem law_post {H : Type} {enc : TypeId × Value → H} {P : Program} (hl : laidOutB P = true) {f : Func} {s : ChangeSpec} {tb : TypeId} {apart fresh handsOn : Bool} {W W' : World} {args : Array Value}
    {ds gs : List (DataW H)} {before : List MemPlace} (hvars : varsRowed P s.vars = true) (hp : (f.params.toList.all fun t => P.readableRec t && decide (t < P.types.size)) = true) (hr : f.resultTypes = #[tb])
    (htb : P.underlying tb = some .bool) (hs : s.fn H (ds ++ gs) = { results := [.lit (.bool true)], args := ds, vars := gs })
    (hW : DataW.Whole enc P f.params.toList s.vars apart W args.toList ds gs before) (hb : Below W.heap.size W W') :
    s.post enc P f apart fresh handsOn false W args (.bool true) W' := by
  have hlt : ∀ p ∈ before, p.block < W.heap.size := fun p hp => hW.lt p hp
  have hW' := hW
  obtain ⟨p, q, hA, hV, rfl, _, _⟩ := hW
  refine ⟨ds, gs, p ++ q, [], p, q, hW', ?_, ?_, ?_, hb.frame _, fun h => by cases h⟩
  · rw [hs, hr]
    exact trodAll_mk1 (shut_bool htb _)
  · rw [hs]
    exact stays_all hl hb hp hA (fun x hx => hlt x (List.mem_append_left _ hx))
  · rw [hs]
    exact Below.trodVars hl hb hvars hV

/-- 'There is an input that fits': the world in which all the listed variables are laid. -/
theorem door_witness {H : Type} {enc : TypeId × Value → H} {C : Checked} {os : Os} {f : FuncId} {fn : Func} {s : OpenSpec} {conds : List PathCond} {apart : Bool} {laid : List (String × DataW Unit)} (w0 : World) (args : Array Value) (hos : w0.os = os)
    (hsh : (w0.forCall (fun _ _ => 0) ⟨#[], args, []⟩).Shaped C.prog)
    (hok : Input.okWideB C.prog (w0.forCall (fun _ _ => 0) ⟨#[], args, []⟩) f ⟨#[], args, []⟩ = true)
    (hrow : s.preRow enc C.prog fn conds apart laid (w0.forCall (fun _ _ => 0) ⟨#[], args, []⟩).memory args) :
    ∃ (w : World) (tape : Tape) (i : Input), w.os = os ∧ (w.forCall tape i).Shaped C.prog ∧ i.vars = [] ∧ Input.okWide C.prog (w.forCall tape i) .any w.heap.size f i ∧
      s.preRow enc C.prog fn conds apart laid (w.forCall tape i).memory i.args ∧ ({} : Assume).holds C.prog (lone (Frame.enter C.prog f i.args .normal) [] (w.forCall tape i)) :=
  ⟨w0, fun _ _ => 0, ⟨#[], args, []⟩, hos, hsh, (Input.okWide_of_okWideB (base := 0) hok).1, (Input.okWide_of_okWideB hok).2, hrow, by
    simp only [Assume.holds]
    exact ⟨by simp, by simp, fun _ => Modest.zero, by simp, by simp⟩⟩
theorem trodVars_single {H : Type} {enc : TypeId × Value → H} {P : Program} {w : World} {sp : Nat → Bool} {n : String} {gs : List (DataW H)} {ps : List MemPlace} (h : DataW.TrodVars enc P w sp [n] gs ps) : ∃ g, gs = [g] := by
  match gs, h with
  | [], h => exact h.elim
  | [g], _ => exact ⟨g, rfl⟩
  | _ :: _ :: _, h =>
    obtain ⟨_, _, _, _, _, _, _, _, _, _, h', _⟩ := h
    exact h'.elim
theorem some_of_isSome {α : Type} {o : Option α} (h : o.isSome = true) : ∃ x, o = some x := Option.isSome_iff_exists.1 h
end Go.Proofs.YtilhgjcjofobeaaDoor
namespace Go.Proofs.YtilhgjcjofobeaaDoor

/-- A step in the middle of a line: what is given, and the state behind it. -/
def d4 (c : UInt8) : List UInt8 × Nat := if c = 13 then ([], 3) else if c = 10 then ([10], 0) else ([c], 4)
/-- A step: 0 at a line's beginning, 1 behind a dot there, 2 behind a dot and a CR there, 3 behind a CR, 4 in a line, 5 behind the end. -/
def dstep (s : Nat) (c : UInt8) : List UInt8 × Nat :=
  if s = 0 then (if c = 46 then ([], 1) else if c = 13 then ([], 3) else ([c], 4))
  else if s = 1 then (if c = 13 then ([], 2) else if c = 10 then ([], 5) else ([c], 4))
  else if s = 2 then (if c = 10 then ([], 5) else (13 :: (d4 c).1, (d4 c).2))
  else if s = 3 then (if c = 10 then ([10], 0) else (13 :: (d4 c).1, (d4 c).2))
  else d4 c
/-- What is given of all that is left, whether the end was met, and what stands behind it. -/
def dots (s : Nat) : List UInt8 → List UInt8 × Bool × List UInt8
  | [] => ([], s == 5, [])
  | c :: t => if s = 5 then ([], true, c :: t) else ((dstep s c).1 ++ (dots (dstep s c).2 t).1, (dots (dstep s c).2 t).2.1, (dots (dstep s c).2 t).2.2)
theorem dots_end (S : List UInt8) : dots 5 S = ([], true, S) := by cases S <;> rfl
theorem dots_cons {s : Nat} (hs : s ≠ 5) (c : UInt8) (t : List UInt8) : dots s (c :: t) = ((dstep s c).1 ++ (dots (dstep s c).2 t).1, (dots (dstep s c).2 t).2.1, (dots (dstep s c).2 t).2.2) := by
  simp [dots, hs]
/-- Bytes of a line, neither CR nor LF among them, read in the line's middle. -/
theorem dots_plain (l X : List UInt8) (h : ∀ c ∈ l, c ≠ 13 ∧ c ≠ 10) : dots 4 (l ++ X) = (l ++ (dots 4 X).1, (dots 4 X).2) := by
  induction l with
  | nil => rfl
  | cons c t ih =>
    have hc := h c (List.mem_cons_self ..)
    have hd : dstep 4 c = ([c], 4) := by simp [dstep, d4, hc.1, hc.2]
    rw [List.cons_append, dots_cons (by decide), hd, ih (fun x hx => h x (List.mem_cons_of_mem _ hx))]
    rfl
theorem dots_crlf (s : Nat) (hs : s = 0 ∨ s = 4) (X : List UInt8) : dots s (13 :: 10 :: X) = (10 :: (dots 0 X).1, (dots 0 X).2) := by
  rcases hs with rfl | rfl
  · rw [dots_cons (by decide), show dstep 0 13 = ([], 3) from rfl]
    show ([] ++ (dots 3 (10 :: X)).1, _, _) = _
    rw [dots_cons (by decide), show dstep 3 10 = ([10], 0) from rfl]
    rfl
  · rw [dots_cons (by decide), show dstep 4 13 = ([], 3) from rfl]
    show ([] ++ (dots 3 (10 :: X)).1, _, _) = _
    rw [dots_cons (by decide), show dstep 3 10 = ([10], 0) from rfl]
    rfl
/-- A line with a dot ahead of it where it begins with one. -/
def esc (l : List UInt8) : List UInt8 := if l.head? = some 46 then 46 :: l else l
/-- No CR and no LF. -/
def Clean (l : List UInt8) : Prop := ∀ c ∈ l, c ≠ 13 ∧ c ≠ 10
theorem dots_line (l X : List UInt8) (h : Clean l) : dots 0 (esc l ++ (13 :: 10 :: X)) = (l ++ (10 :: (dots 0 X).1), (dots 0 X).2) := by
  cases l with
  | nil => exact dots_crlf 0 (.inl rfl) X
  | cons c t =>
    have hc := h c (List.mem_cons_self ..)
    have ht : ∀ x ∈ t, x ≠ 13 ∧ x ≠ 10 := fun x hx => h x (List.mem_cons_of_mem _ hx)
    by_cases h46 : c = 46
    · subst h46
      show dots 0 (46 :: 46 :: (t ++ _)) = _
      rw [dots_cons (by decide), show dstep 0 46 = ([], 1) from rfl]
      show ([] ++ (dots 1 (46 :: (t ++ _))).1, (dots 1 (46 :: (t ++ _))).2) = _
      rw [dots_cons (by decide), show dstep 1 46 = ([46], 4) from rfl]
      simp only [dots_plain t _ ht, dots_crlf 4 (.inr rfl)]
      simp
    · have he : esc (c :: t) = c :: t := by simp [esc, h46]
      have hd : dstep 0 c = ([c], 4) := by simp [dstep, h46, hc.1]
      rw [he, List.cons_append, dots_cons (by decide), hd]
      simp only [dots_plain t _ ht, dots_crlf 4 (.inr rfl)]
      simp
/-- The block of lines. -/
def dotText (ls : List (List UInt8)) : List UInt8 := ls.flatMap (fun l => esc l ++ [13, 10]) ++ [46, 13, 10]
/-- The lines with LF behind each. -/
def feeds (ls : List (List UInt8)) : List UInt8 := ls.flatMap (fun l => l ++ [10])
theorem dots_text (ls : List (List UInt8)) (R : List UInt8) (h : ∀ l ∈ ls, Clean l) : dots 0 (dotText ls ++ R) = (feeds ls, true, R) := by
  induction ls with
  | nil =>
    show dots 0 (46 :: 13 :: 10 :: R) = _
    rw [dots_cons (by decide), show dstep 0 46 = ([], 1) from rfl, dots_cons (by decide), show dstep 1 13 = ([], 2) from rfl, dots_cons (by decide), show dstep 2 10 = ([], 5) from rfl, dots_end]
    rfl
  | cons l t ih =>
    have := dots_line l (dotText t ++ R) (h l (List.mem_cons_self ..))
    rw [ih (fun x hx => h x (List.mem_cons_of_mem _ hx))] at this
    have e : dotText (l :: t) ++ R = esc l ++ (13 :: 10 :: (dotText t ++ R)) := by simp [dotText]
    rw [e, this]
    simp [feeds]
/-- The state behind bytes in which the end is not met. -/
def dlast (s : Nat) : List UInt8 → Nat
  | [] => s
  | c :: t => if s = 5 then 5 else dlast (dstep s c).2 t
theorem dots_app (A X : List UInt8) : ∀ s, ((dots s A).2.1 = false → (dots s (A ++ X)).1 = (dots s A).1 ++ (dots (dlast s A) X).1 ∧ (dots s (A ++ X)).2 = (dots (dlast s A) X).2 ∧ (dots s A).2.2 = []) ∧
    ((dots s A).2.1 = true → dots s (A ++ X) = ((dots s A).1, true, (dots s A).2.2 ++ X)) := by
  induction A with
  | nil =>
    intro s
    constructor
    · intro _; exact ⟨rfl, rfl, rfl⟩
    · intro h
      have : s = 5 := by simpa [dots] using h
      subst this
      rw [List.nil_append, dots_end, dots_end]
      rfl
  | cons c t ih =>
    intro s
    by_cases hs : s = 5
    · subst hs
      rw [List.cons_append, dots_end, dots_end]
      exact ⟨fun h => (by cases h), fun _ => rfl⟩
    · have hl : dlast s (c :: t) = dlast (dstep s c).2 t := by simp [dlast, hs]
      obtain ⟨i1, i2⟩ := ih (dstep s c).2
      rw [List.cons_append, dots_cons hs, dots_cons hs, hl]
      constructor
      · intro h
        obtain ⟨h1, h2, h3⟩ := i1 h
        exact ⟨by simp only [h1, List.append_assoc], h2, h3⟩
      · intro h
        rw [i2 h]
/-- A beginning of a block: a beginning of its lines, no end, nothing behind. -/
theorem dots_cut (ls : List (List UInt8)) (k : Nat) (h : ∀ l ∈ ls, Clean l) (hk : k < (dotText ls).length) :
    ∃ O, dots 0 ((dotText ls).take k) = (O, false, []) ∧ O <+: feeds ls := by
  have hw := dots_text ls [] h
  rw [List.append_nil] at hw
  have ha := dots_app ((dotText ls).take k) ((dotText ls).drop k) 0
  rw [List.take_append_drop, hw] at ha
  cases hb : (dots 0 ((dotText ls).take k)).2.1 with
  | false =>
    obtain ⟨h1, h2, h3⟩ := ha.1 hb
    refine ⟨(dots 0 ((dotText ls).take k)).1, ?_, ⟨_, h1.symm⟩⟩
    rw [← hb]
    exact Prod.ext rfl (Prod.ext rfl h3)
  | true =>
    have h1 := congrArg (fun x => x.2.2.length) (ha.2 hb)
    simp at h1
    omega
/-- The number of bytes that are consumed. -/
theorem dots_rest (S : List UInt8) : ∀ s, (dots s S).2.2 <:+ S := by
  induction S with
  | nil => intro s; exact List.suffix_refl _
  | cons c t ih =>
    intro s
    by_cases hs : s = 5
    · subst hs; rw [dots_end]; exact List.suffix_refl _
    · rw [dots_cons hs]; exact (ih _).trans (List.suffix_cons ..)
end Go.Proofs.YtilhgjcjofobeaaDoor
namespace Go.Proofs.YtilhgjcjofobeaaDoor
open Go.RowKit

/-- A slice's address under which the strings ls lie (of an empty slice nothing is said). -/
def SL (w : World) (A : Option Addr) (ls : List (List UInt8)) : Prop :=
  ls ≠ [] → ∃ g o, A = some ⟨g, o, none⟩ ∧ ∀ i s, ls[i]? = some s → w.cell? ⟨g, o + i, none⟩ = some (.string ⟨s.toArray⟩)
theorem SL.nil (w : World) (A : Option Addr) : SL w A [] := fun h => absurd rfl h
theorem SL.lt {w : World} {A : Option Addr} {ls : List (List UInt8)} (h : SL w A ls) : ∀ g o, A = some ⟨g, o, none⟩ → ls ≠ [] → g < w.heap.size := by
  intro g o e hne
  obtain ⟨g', o', he, hx⟩ := h hne
  rw [e] at he; injection he with he; injection he with h1 h2; subst h1; subst h2
  rcases ls with _ | ⟨s, t⟩
  · exact absurd rfl hne
  · exact World.block_lt_of_cell? _ _ (hx 0 s rfl)
theorem SL.below {w w' : World} {A : Option Addr} {ls : List (List UInt8)} (h : SL w A ls) (hb : Below w.heap.size w w') : SL w' A ls := by
  intro hne
  obtain ⟨g, o, he, hx⟩ := h hne
  have hlt := h.lt g o he hne
  exact ⟨g, o, he, fun i s hs => (hb.cell (p := ⟨g, o + i, none⟩) hlt).trans (hx i s hs)⟩
theorem SL.one (w : World) (s : List UInt8) (t : TypeId) : SL (w.alloc (.cells #[.string ⟨s.toArray⟩] t)) (some ⟨w.heap.size, 0, none⟩) [s] := by
  intro _
  refine ⟨_, _, rfl, fun i u hu => ?_⟩
  rcases i with _ | i
  · simp at hu; subst hu; simp
  · simp at hu
/-- No CR and no LF. -/
def cleanB (l : List UInt8) : Bool := l.all fun c => (c != 13) && (c != 10)
theorem cleanB_iff {l : List UInt8} : cleanB l = true ↔ Clean l := by
  simp [cleanB, Clean]
def cleansB (ls : List (List UInt8)) : Bool := ls.all cleanB
theorem cleansB_iff {ls : List (List UInt8)} : cleansB ls = true ↔ ∀ l ∈ ls, Clean l := by
  simp only [cleansB, List.all_eq_true, cleanB_iff]
theorem cleanB_snoc (l : List UInt8) (k : Nat) (h : k < l.length) : cleanB (l.take (k + 1)) = (cleanB (l.take k) && ((l[k] != 13) && (l[k] != 10))) := by
  unfold cleanB
  rw [List.take_succ_eq_append_getElem h, List.all_append]
  simp only [List.all_cons, List.all_nil, Bool.and_true]
theorem cleanB_bad (l : List UInt8) (k : Nat) (h : k < l.length) (hc : l[k] = 13 ∨ l[k] = 10) : cleanB l = false := by
  rw [Bool.eq_false_iff]
  intro h1
  have := cleanB_iff.1 h1 l[k] (List.getElem_mem h)
  rcases hc with e | e
  · exact this.1 e
  · exact this.2 e
theorem cleansB_snoc (ls : List (List UInt8)) (k : Nat) (h : k < ls.length) : cleansB (ls.take (k + 1)) = (cleansB (ls.take k) && cleanB ls[k]) := by
  unfold cleansB
  rw [List.take_succ_eq_append_getElem h, List.all_append]
  simp only [List.all_cons, List.all_nil, Bool.and_true]
theorem cleansB_bad (ls : List (List UInt8)) (k : Nat) (h : k < ls.length) (hc : cleanB ls[k] = false) : cleansB ls = false := by
  rw [Bool.eq_false_iff]
  intro h1
  rw [cleansB, List.all_eq_true] at h1
  rw [h1 ls[k] (List.getElem_mem h)] at hc
  cases hc
end Go.Proofs.YtilhgjcjofobeaaDoor
namespace Go.Proofs.YtilhgjcjofobeaaDoor
open Go.RowKit

def printB (s : List UInt8) : Bool := s.all fun c => decide (32 ≤ c.toNat) && decide (c.toNat ≤ 126)
def bareB (s : List UInt8) : Bool := printB s && (s.head? != some 32 && s.getLast? != some 32)
def blanksB (s : List UInt8) : Bool := s.all (fun c => c == 32 || c == 9) && decide (s.length ≤ 20)
theorem byte_bne (a b : UInt8) : ((a.toNat : Int) != (b.toNat : Int)) = (a != b) := by
  by_cases h : a = b
  · subst h; simp
  · have h2 : (a.toNat : Int) ≠ (b.toNat : Int) := fun e => h ((byte_eq_iff a b).1 e)
    rw [bne_iff_ne.2 h2, bne_iff_ne.2 h]
theorem printB_snoc (l : List UInt8) (k : Nat) (h : k < l.length) : printB (l.take (k + 1)) = (printB (l.take k) && (decide (32 ≤ l[k].toNat) && decide (l[k].toNat ≤ 126))) := by
  unfold printB
  rw [List.take_succ_eq_append_getElem h, List.all_append]
  simp only [List.all_cons, List.all_nil, Bool.and_true]
theorem printB_bad (l : List UInt8) (k : Nat) (h : k < l.length) (hc : l[k].toNat < 32 ∨ 126 < l[k].toNat) : printB l = false := by
  rw [Bool.eq_false_iff]
  intro h1
  have := List.all_eq_true.1 h1 l[k] (List.getElem_mem h)
  simp at this
  omega
set_option maxRecDepth 200000 in
theorem printable_any (s : List UInt8) (hs : s.length ≤ 9223372036854775807) (w : World) : Calls Tryd.prog 16 #[.string ⟨s.toArray⟩] w fun e w' => e = .returned (.bool (printB s)) ∧ w = w' := by
  go_enter Tryd.func16, Tryd.ntmps16
  go_wp2
  go_loop [3] (fun i => ∃ j : Nat, j ≤ s.length ∧ i = .int .i64 j ∧ Hid (printB (s.take j) = true)) (fun i => s.length - (intOf i).toNat)
  case atStart => exact ⟨0, Nat.zero_le _, rfl, Lib.hid rfl⟩
  case round =>
    obtain ⟨j, hj, rfl, hcj⟩ := hrel
    by_cases hjl : j < s.length
    · by_cases hbad : s[j].toNat < 32 ∨ 126 < s[j].toNat
      · have hbd := Lib.hid (printB_bad s j hjl hbad)
        by_cases h1 : s[j].toNat < 32
        · have h1i : (s[j].toNat : Int) < 32 := by omega
          clear hbad
          go_wp2
          go_ret
          exact ⟨ret_bool hbd.out.symm, rfl⟩
        · have h1i : ¬ (s[j].toNat : Int) < 32 := by omega
          have h2i : (126 : Int) < (s[j].toNat : Int) := by omega
          clear hbad
          go_wp2
          go_ret
          exact ⟨ret_bool hbd.out.symm, rfl⟩
      · have h1i : ¬ (s[j].toNat : Int) < 32 := by omega
        have h2i : ¬ (126 : Int) < (s[j].toNat : Int) := by omega
        have hnx : printB (s.take (j + 1)) = true := by
          rw [printB_snoc s j hjl, hcj.out]
          simp only [Bool.true_and, Bool.and_eq_true, decide_eq_true_eq]
          omega
        have HN := Lib.hid hnx
        clear hnx hbad
        go_wp2
        go_round
        case rel => exact ⟨j + 1, by omega, by go_num, HN⟩
        case measure => simp [intOf]; omega
    · go_wp2
      go_ret
      refine ⟨ret_bool ?_, rfl⟩
      have := hcj.out
      rw [List.take_of_length_le (by omega)] at this
      exact this.symm
theorem bareB_nil : bareB [] = true := rfl
theorem bareB_one (a : UInt8) : bareB [a] = (printB [a] && (a != 32)) := by
  have e : ((some a : Option UInt8) != some 32) = (a != 32) := by simp [bne]
  simp only [bareB, List.head?_cons, List.getLast?_singleton, e, Bool.and_self]
theorem bareB_two (a b : UInt8) (t : List UInt8) : bareB (a :: (t ++ [b])) = (printB (a :: (t ++ [b])) && ((a != 32) && (b != 32))) := by
  have e : ∀ a : UInt8, ((some a : Option UInt8) != some 32) = (a != 32) := fun a => by simp [bne]
  have h : (a :: (t ++ [b])).getLast? = some b := by rw [← List.cons_append, List.getLast?_append]; rfl
  simp only [bareB, List.head?_cons, h, e]
set_option maxRecDepth 200000 in
theorem bare_any (s : List UInt8) (hs : s.length ≤ 9223372036854775807) (w : World) : Calls Tryd.prog 7 #[.string ⟨s.toArray⟩] w fun e w' => e = .returned (.bool (bareB s)) ∧ w = w' := by
  have hp := printable_any s hs w
  rcases s with _ | ⟨a, s⟩
  · rw [show printB ([] : List UInt8) = true from rfl] at hp
    have HP := Lib.hid hp
    clear hp
    go_enter Tryd.func7, Tryd.ntmps7
    go_wp2_with (go_at_call 16; refine HP.out.mono ?_; rintro e w' ⟨rfl, rfl⟩)
    go_ret
    exact ⟨rfl, rfl⟩
  · rcases List.eq_nil_or_concat s with rfl | ⟨t, b, rfl⟩
    · rw [bareB_one]
      obtain ⟨pb, hpb⟩ : ∃ pb, pb = printB [a] := ⟨_, rfl⟩
      obtain ⟨qa, hqa⟩ : ∃ qa, qa = (a != 32) := ⟨_, rfl⟩
      have hqi : ((a.toNat : Int) != 32) = qa := by rw [hqa]; exact byte_bne a 32
      rw [← hpb, ← hqa]
      rw [← hpb] at hp
      have HP := Lib.hid hp
      clear hp hpb hqa
      cases pb <;> cases qa
      all_goals
        go_enter Tryd.func7, Tryd.ntmps7
        go_wp2_with (go_at_call 16; refine HP.out.mono ?_; rintro e w' ⟨rfl, rfl⟩)
        go_ret
        exact ⟨rfl, rfl⟩
    · simp only [List.concat_eq_append] at *
      rw [bareB_two]
      obtain ⟨pb, hpb⟩ : ∃ pb, pb = printB (a :: (t ++ [b])) := ⟨_, rfl⟩
      obtain ⟨qa, hqa⟩ : ∃ qa, qa = (a != 32) := ⟨_, rfl⟩
      obtain ⟨qb, hqb⟩ : ∃ qb, qb = (b != 32) := ⟨_, rfl⟩
      have hqi : ((a.toNat : Int) != 32) = qa := by rw [hqa]; exact byte_bne a 32
      have hqj : ((b.toNat : Int) != 32) = qb := by rw [hqb]; exact byte_bne b 32
      have hx : (a :: (t ++ [b])).length = t.length + 1 + 1 := by simp
      rw [← hpb, ← hqa, ← hqb]
      rw [← hpb] at hp
      have HP := Lib.hid hp
      clear hp hpb hqa hqb
      cases pb <;> cases qa <;> cases qb
      all_goals
        go_enter Tryd.func7, Tryd.ntmps7
        go_wp2_with (go_at_call 16; refine HP.out.mono ?_; rintro e w' ⟨rfl, rfl⟩)
        go_ret
        exact ⟨rfl, rfl⟩
theorem blanks_snoc (l : List UInt8) (k : Nat) (h : k < l.length) : (l.take (k + 1)).all (fun c => c == 32 || c == 9) = ((l.take k).all (fun c => c == 32 || c == 9) && (l[k] == 32 || l[k] == 9)) := by
  rw [List.take_succ_eq_append_getElem h, List.all_append]
  simp only [List.all_cons, List.all_nil, Bool.and_true]
theorem blanks_bad (l : List UInt8) (k : Nat) (h : k < l.length) (hc : (l[k] == 32 || l[k] == 9) = false) : blanksB l = false := by
  unfold blanksB
  rw [Bool.and_eq_false_iff]
  left
  rw [Bool.eq_false_iff]
  intro h1
  rw [List.all_eq_true.1 h1 l[k] (List.getElem_mem h)] at hc
  cases hc
set_option maxRecDepth 200000 in
theorem blanks_any (s : List UInt8) (hs : s.length ≤ 9223372036854775807) (w : World) : Calls Tryd.prog 31 #[.string ⟨s.toArray⟩] w fun e w' => e = .returned (.bool (blanksB s)) ∧ w = w' := by
  go_enter Tryd.func31, Tryd.ntmps31
  go_wp2
  go_loop [3] (fun i => ∃ j : Nat, j ≤ s.length ∧ i = .int .i64 j ∧ Hid ((s.take j).all (fun c => c == 32 || c == 9) = true)) (fun i => s.length - (intOf i).toNat)
  case atStart => exact ⟨0, Nat.zero_le _, rfl, Lib.hid rfl⟩
  case round =>
    obtain ⟨j, hj, rfl, hcj⟩ := hrel
    by_cases hjl : j < s.length
    · obtain ⟨qa, hqa⟩ : ∃ qa, qa = (s[j] != 32) := ⟨_, rfl⟩
      obtain ⟨qb, hqb⟩ : ∃ qb, qb = (s[j] != 9) := ⟨_, rfl⟩
      have e1 : ((s[j].toNat : Int) != 32) = qa := by rw [hqa]; exact byte_bne s[j] 32
      have e2 : ((s[j].toNat : Int) != 9) = qb := by rw [hqb]; exact byte_bne s[j] 9
      have hnx : (qa && qb) = false → (s.take (j + 1)).all (fun c => c == 32 || c == 9) = true := fun h => by
        rw [blanks_snoc s j hjl, hcj.out, Bool.true_and]
        rw [hqa, hqb] at h
        revert h
        cases h1 : (s[j] == 32) <;> cases h2 : (s[j] == 9) <;> simp [bne, h1, h2]
      have hbd : (qa && qb) = true → blanksB s = false := fun h => by
        rw [hqa, hqb] at h
        refine blanks_bad s j hjl ?_
        revert h
        cases h1 : (s[j] == 32) <;> cases h2 : (s[j] == 9) <;> simp [bne, h1, h2]
      have HN := Lib.hid (And.intro hnx hbd)
      clear hqa hqb hnx hbd
      cases qa
      · go_wp2
        go_round
        case rel => exact ⟨j + 1, by omega, by go_num, HN.out.1 rfl⟩
        case measure => simp [intOf]; omega
      · cases qb
        · go_wp2
          go_round
          case rel => exact ⟨j + 1, by omega, by go_num, HN.out.1 rfl⟩
          case measure => simp [intOf]; omega
        · go_upto_if 19 with (fail)
          go_wp2
          go_ret
          exact ⟨ret_bool (HN.out.2 rfl).symm, rfl⟩
    · have hall := hcj.out
      rw [List.take_of_length_le (by omega)] at hall
      have HA := Lib.hid (show blanksB s = decide (s.length ≤ 20) by unfold blanksB; rw [hall, Bool.true_and])
      clear hall
      by_cases h20 : s.length ≤ 20
      · have h20i : (s.length : Int) ≤ 20 := by omega
        go_wp2
        go_ret
        exact ⟨ret_bool (by rw [HA.out]; simp; omega), rfl⟩
      · have h20i : ¬ (s.length : Int) ≤ 20 := by omega
        go_wp2
        go_ret
        exact ⟨ret_bool (by rw [HA.out]; simp; omega), rfl⟩
end Go.Proofs.YtilhgjcjofobeaaDoor
namespace Go.Proofs.YtilhgjcjofobeaaDoor
open Go.RowKit

/-- A new block of bytes behind a conversion: what is known of it. -/
structure Fresh (w w1 : World) (l : List UInt8) (c : Nat) : Prop where
  below : Below w.heap.size w w1
  size : w1.heap.size = w.heap.size + 1
  le : l.length ≤ c
  le' : c ≤ 9223372036854775807
  row : Row w1 w.heap.size 0 l.length (fun i => (l.getD i 0).toNat)

theorem bytesRow_size (l : List UInt8) (c : Nat) (h : l.length ≤ c) : (bytesRow ⟨l.toArray⟩ c).size = c := by
  simp [bytesRow, mk_size]; omega
theorem bytesRow_get (l : List UInt8) (c i : Nat) (h : i < l.length) : (bytesRow ⟨l.toArray⟩ c)[i]? = some (.int .u8 (l.getD i 0).toNat) := by
  unfold bytesRow
  rw [Array.getElem?_append_left (by simpa using h)]
  simp [List.getElem?_eq_getElem h]
theorem fresh_of (w : World) (l : List UInt8) (hl : l.length ≤ 9223372036854775807) :
    Fresh w (w.drew.alloc (.cells (bytesRow ⟨l.toArray⟩ (grownCap w l.length 0 5)) 5 ((bytesRow ⟨l.toArray⟩ (grownCap w l.length 0 5)).size, (bytesRow ⟨l.toArray⟩ (grownCap w l.length 0 5)).size + 1))) l (grownCap w l.length 0 5) := by
  have hc : l.length ≤ grownCap w l.length 0 5 := by simp [grownCap, Question.cut]
  have hc' : grownCap w l.length 0 5 ≤ 9223372036854775807 := by
    simp only [grownCap, Question.cut]
    have := Nat.mod_lt (w.tape w.drawn (Question.appendCap l.length 0 5)) (show 0 < 2 ^ 63 - l.length by omega)
    omega
  refine ⟨((Below.refl _ _).drew).alloc (Nat.le_refl _) _, by simp, hc, hc', fun i hi => ?_⟩
  have hx := World.cell?_alloc_mark w.drew (bytesRow ⟨l.toArray⟩ (grownCap w l.length 0 5)) 5 ((bytesRow ⟨l.toArray⟩ (grownCap w l.length 0 5)).size, (bytesRow ⟨l.toArray⟩ (grownCap w l.length 0 5)).size + 1) i
  have hy := World.frozen?_alloc_mark w.drew (bytesRow ⟨l.toArray⟩ (grownCap w l.length 0 5)) 5 (bytesRow ⟨l.toArray⟩ (grownCap w l.length 0 5)).size ((bytesRow ⟨l.toArray⟩ (grownCap w l.length 0 5)).size + 1) i
  rw [World.size_drew] at hx hy
  rw [Nat.zero_add, hx, hy]
  refine ⟨bytesRow_get l _ i hi, ?_⟩
  rw [bytesRow_size l _ hc]
  simp; omega

/-- One wanted operation that yields a value. -/
theorem wpList_value {P : Program} {ops : Array Oper} {Q : Exit → Act → World → Prop} {a : Act} {w w' : World} {rest : List Oper} {o : Oper} {v : Value}
    (hw : Region.wanted o (yielded ops a.tmps) = true) (hr : (execOp a.eval o).run P w = .ok (.value v) w') (h : wpList P ops Q rest (a.put o.dst v) w') : wpList P ops Q (o :: rest) a w := by
  unfold wpList
  rw [if_pos hw]
  refine .inl ?_
  unfold Oper.wp
  rw [hr]
  exact h
theorem exec_convert {P : Program} {o : Oper} {a : Act} {w w' : World} {src dst : TypeId} {x : Operand} {u v : Value} (ho : o.op = .convert src dst x) (hx : a.eval x = u) (hr : (convert src dst u).run P w = .ok v w') :
    (execOp a.eval o).run P w = .ok (.value v) w' := by
  unfold execOp
  simp only [ho, hx, Sem.run_bind, hr, Result.andThen_ok]
  rfl
/-- '[]byte(s)'. -/
theorem wpList_toBytes {ops : Array Oper} {Q : Exit → Act → World → Prop} {a : Act} {w : World} {rest : List Oper} {o : Oper}
    (hw : Region.wanted o (yielded ops a.tmps) = true) (x : Operand) (ho : o.op = .convert 9 23 x) (l : List UInt8) (hx : a.eval x = .string ⟨l.toArray⟩) (hl : l.length ≤ 9223372036854775807)
    (h : ∀ c w1, Fresh w w1 l c → wpList Tryd.prog ops Q rest (a.put o.dst (.slice (some ⟨w.heap.size, 0, none⟩) l.length c)) w1) : wpList Tryd.prog ops Q (o :: rest) a w :=
  wpList_value hw (exec_convert ho hx (run_bytes_of_string w 9 23 5 _ Tryd.underlying9 Tryd.underlying23 Tryd.underlying5)) (h _ _ (fresh_of w l hl))
/-- A guard for an arm: the next operation is '[]byte(s)'. -/
theorem at_toBytes {P : Program} {ops : Array Oper} {Q : Exit → Act → World → Prop} {a : Act} {w : World} {rest : List Oper} {d : Option Tmp} {x : Operand} {t : TypeId} {p : String} {af : Array Edge} {g : Option (Nat × Bool)}
    (h : wpList P ops Q (⟨d, .convert 9 23 x, t, p, af, g⟩ :: rest) a w) : wpList P ops Q (⟨d, .convert 9 23 x, t, p, af, g⟩ :: rest) a w := h
/-- 'string(b)'. -/
theorem run_toString {w : World} {g o c n : Nat} {l : List UInt8} (hn : n = l.length) (hr : Row w g o n (fun i => (l.getD i 0).toNat)) :
    (convert 23 9 (.slice (some ⟨g, o, none⟩) n c)).run Tryd.prog w = .ok (.string ⟨l.toArray⟩) w := by
  subst hn
  refine run_convert_bytes_back w 23 9 5 ⟨g, o, none⟩ c l Tryd.underlying23 Tryd.underlying5 Tryd.underlying9 (fun j hj => ?_)
  have h := hr.cell hj
  rw [List.getD_eq_getElem?_getD, List.getElem?_eq_getElem hj] at h
  have ha : (Addr.mk g o none).add j = ⟨g, o + j, none⟩ := by
    unfold Addr.add
    split
    · rename_i h0; subst h0; rfl
    · rfl
  rw [ha]
  exact h
theorem run_toString_nil {w : World} {A : Option Addr} {c : Nat} :
    (convert 23 9 (.slice A 0 c)).run Tryd.prog w = .ok (.string ⟨#[]⟩) w := by
  rw [run_convert_bytes_string w 23 9 5 A 0 c Tryd.underlying23 Tryd.underlying5 Tryd.underlying9]
  rcases A with _ | a
  · rfl
  · exact run_bytesToString w a 0 c [] rfl
end Go.Proofs.YtilhgjcjofobeaaDoor
namespace Go.Proofs.YtilhgjcjofobeaaDoor
open Go.RowKit

def bts (l : List UInt8) : List Value := l.map (fun b => Value.int .u8 b.toNat)
theorem bts_length (l : List UInt8) : (bts l).length = l.length := by simp [bts]
theorem bts_append (a b : List UInt8) : bts (a ++ b) = bts a ++ bts b := by simp [bts]
theorem bts_get (l : List UInt8) (i : Nat) : (bts l)[i]? = l[i]?.map (fun b => Value.int .u8 b.toNat) := by simp [bts]
theorem bts_one (l : List UInt8) : ∀ u ∈ bts l, u.oneCell' = true := by
  intro u hu
  obtain ⟨b, _, rfl⟩ := List.mem_map.1 hu
  rfl
theorem Tryd.infoU : (Tryd.prog.info? 5).map (fun i => (i.zero, i.size, i.bytes)) = some (some (.int .u8 0), 1, 1) := by kernel_rfl

/-- The slice v is the call's own (its row lies from block base on) and reads as l. -/
def OB (w : World) (base : Nat) (v : Value) (l : List UInt8) : Prop := w.ownsRow base 5 1 v l.length (bts l)
theorem OB.nil (w : World) (base : Nat) : OB w base (.slice none 0 0) [] := World.ownsRow_nil _ _ _ _
theorem OB.lit (w : World) (base : Nat) (h : base ≤ w.heap.size) : OB (w.alloc (.cells #[] 5)) base (.slice (some ⟨w.heap.size, 0, none⟩) 0 0) [] :=
  World.ownsRow_lit (e := 5) (size := 1) w #[] 0 h (by decide) rfl
theorem OB.lit' {w : World} {base g : Nat} (hg : g = w.heap.size) (h : base ≤ w.heap.size) : OB (w.alloc (.cells #[] 5)) base (.slice (some ⟨g, 0, none⟩) 0 0) [] := by subst hg; exact OB.lit w base h
theorem OB.alloc {w : World} {base : Nat} {v : Value} {l : List UInt8} (h : OB w base v l) (o : Obj) : OB (w.alloc o) base v l := World.ownsRow.alloc h o
theorem OB.drew {w : World} {base : Nat} {v : Value} {l : List UInt8} (h : OB w base v l) : OB w.drew base v l := h
theorem OB.kept {w w' : World} {base : Nat} {v : Value} {l : List UInt8} {row : Option Nat} (h : OB w base v l) (hg : w.grownBy w' row) (hne : v.ownBlock = none ∨ v.ownBlock ≠ row) : OB w' base v l := World.ownsRow.kept h hg hne
theorem OB.form {w : World} {base : Nat} {v : Value} {l : List UInt8} (h : OB w base v l) : ∃ A c, v = .slice A l.length c ∧ l.length ≤ c ∧ c ≤ 9223372036854775807 ∧ RB w A l := by
  obtain ⟨h1, h2⟩ := h
  rcases h2 with ⟨rfl, h0⟩ | ⟨g, cap, cur, rfl, hb, hg, hn, hm, hs, ht⟩
  · have : l = [] := List.eq_nil_of_length_eq_zero h0
    subst this
    exact ⟨none, 0, rfl, Nat.le_refl _, by decide, RB.nil _ _⟩
  · refine ⟨some ⟨g, 0, none⟩, cap, rfl, hn, by unfold maxLen at hm; omega, fun _ => ⟨g, 0, rfl, fun i u hu => ?_⟩⟩
    rw [Nat.zero_add, cell_of_row w g i cur 5 (0, 0) hg]
    have hx : (cur.toList.take (l.length * 1))[i]? = (bts l)[i]? := by rw [ht]
    have hi : i < l.length := by
      rcases Nat.lt_or_ge i l.length with h' | h'
      · exact h'
      · rw [List.getElem?_eq_none h'] at hu; cases hu
    rw [List.getElem?_take, if_pos (by omega), bts_get, hu] at hx
    simpa using hx
theorem OB.lt {w : World} {base : Nat} {v : Value} {l : List UInt8} (h : OB w base v l) : ∀ k, v.ownBlock = some k → base ≤ k ∧ k < w.heap.size := World.ownsRow.lt h
theorem OB.below {w w' : World} {base B : Nat} {v : Value} {l : List UInt8} (h : OB w base v l) (hb : Below B w w') (hlt : ∀ k, v.ownBlock = some k → k < B) : OB w' base v l := by
  obtain ⟨h1, h2⟩ := h
  refine ⟨h1, ?_⟩
  rcases h2 with ⟨rfl, h0⟩ | ⟨g, cap, cur, rfl, hbg, hg, r⟩
  · exact .inl ⟨rfl, h0⟩
  · exact .inr ⟨g, cap, cur, rfl, hbg, by rw [hb.block g (hlt g rfl)]; exact hg, r⟩

theorem exec_builtin2 {P : Program} {o : Oper} {a : Act} {w w' : World} {s x : Operand} {t u : TypeId} {v v' y : Value} (ho : o.op = .call { callee := .builtin .append, args := #[s, x], argTypes := #[t, u] })
    (hs : a.eval s = v) (hx : a.eval x = y) (hr : (Builtin.append_ #[t, u] o.type #[v, y]).run P w = .ok v' w') : (execOp a.eval o).run P w = .ok (.value v') w' := by
  unfold execOp
  simp only [ho, resolve, invoke, builtin, Sem.run_bind, Sem.run_pure, Result.andThen_ok, List.map_toArray, List.map_cons, List.map_nil, hs, hx, hr]

set_option maxRecDepth 40000 in
theorem run_append_B (ty : TypeId) (w : World) (base : Nat) (v : Value) (l : List UInt8) (hown : OB w base v l) (A : Option Addr) (m : List UInt8) (c : Nat) (hr : RB w A m)
    (hlen : l.length + m.length ≤ 140737488355328) (hbase : base ≤ w.heap.size) :
    ∃ v' w', (Builtin.append_ #[23, 23] ty #[v, .slice A m.length c]).run Tryd.prog w = .ok v' w' ∧ OB w' base v' (l ++ m) ∧ w.grownBy w' v.ownBlock ∧ (v'.ownBlock = v.ownBlock ∨ v'.ownBlock = some w.heap.size) := by
  obtain ⟨i0, hi, hz0, hz1, hz2⟩ := info_parts Tryd.infoU
  rcases A with _ | ad
  · have hm : m = [] := by
      rcases m with _ | ⟨b, t⟩
      · rfl
      · obtain ⟨g, o, h, _⟩ := hr (by simp); cases h
    subst hm
    refine ⟨v, w, ?_, by rw [List.append_nil]; exact hown, World.grownBy.refl w _, .inl rfl⟩
    rcases hown.2 with ⟨rfl, _⟩ | ⟨g, cap, cur, rfl, _, _, hnc, _⟩
    · simp [Builtin.append_, run_underlying Tryd.underlying23, sizeOf, typeInfo, hi, Builtin.lenOf, Builtin.firstCells]
    · simp [Builtin.append_, run_underlying Tryd.underlying23, sizeOf, typeInfo, hi, Builtin.lenOf, Builtin.firstCells, hnc, storeCells]
  · have hcells : ∀ j u, (bts m)[j]? = some u → w.cell? (ad.add j) = some u := by
      intro j u hu
      rw [bts_get] at hu
      rcases hj : m[j]? with _ | b
      · rw [hj] at hu; cases hu
      · have hne : m ≠ [] := by rintro rfl; simp at hj
        obtain ⟨g, o, he, hc⟩ := hr hne
        injection he with he; subst he
        rw [hj] at hu
        injection hu with hu; subst hu
        have h := hc j b hj
        have ha : (Addr.mk g o none).add j = ⟨g, o + j, none⟩ := by
          unfold Addr.add
          split
          · rename_i h0; subst h0; rfl
          · rfl
        rw [ha]; exact h
    obtain ⟨v', w', h1, h2, h3, _, h5⟩ := run_append_own_at (P := Tryd.prog) w base 23 ty 5 i0 (.int .u8 0) 1 1 Tryd.underlying23 hi hz0 hz1 hz2 rfl (by decide) v l.length (bts l) hown ad m.length c (bts m) (by rw [bts_length]; omega)
      hcells (bts_one m) (by unfold maxLen; omega) (by omega) hbase
    refine ⟨v', w', h1, ?_, h3, h5⟩
    unfold OB
    rw [bts_append, List.length_append]
    exact h2

/-- What is known behind an append of bytes. -/
structure Appended (w w' : World) (base : Nat) (v : Value) (A : Option Addr) (n c : Nat) (l : List UInt8) : Prop where
  own : OB w' base (.slice A n c) l
  read : RB w' A l
  len : n = l.length
  le : n ≤ c
  le' : c ≤ 9223372036854775807
  grown : w.grownBy w' v.ownBlock
  at_ : (Value.slice A n c).ownBlock = v.ownBlock ∨ (Value.slice A n c).ownBlock = some w.heap.size

/-- 'append(s, x...)', s the call's own. -/
theorem wpList_append_B {ops : Array Oper} {Q : Exit → Act → World → Prop} {a : Act} {w : World} {rest : List Oper} {o : Oper}
    (hw : Region.wanted o (yielded ops a.tmps) = true) (s x : Operand) (ho : o.op = .call { callee := .builtin .append, args := #[s, x], argTypes := #[23, 23] })
    (base : Nat) (v : Value) (l : List UInt8) (hs : a.eval s = v) (hown : OB w base v l) (A : Option Addr) (m : List UInt8) (n c : Nat) (hx : a.eval x = .slice A n c) (hn : n = m.length) (hr : RB w A m)
    (hlen : l.length + m.length ≤ 140737488355328) (hbase : base ≤ w.heap.size) (k : Nat) (hk : k = l.length + n) (lm : List UInt8) (hlm : lm = l ++ m)
    (h : ∀ A' c' w', Appended w w' base v A' k c' lm → wpList Tryd.prog ops Q rest (a.put o.dst (.slice A' k c')) w') : wpList Tryd.prog ops Q (o :: rest) a w := by
  subst hn hk hlm
  obtain ⟨v', w', h1, h2, h3, h4⟩ := run_append_B o.type w base v l hown A m c hr hlen hbase
  obtain ⟨A', c', rfl, hc, hc', hr'⟩ := h2.form
  rw [List.length_append] at h1 h2 h4 hc
  exact wpList_value hw (exec_builtin2 ho hs hx h1) (h A' c' w' ⟨h2, hr', by rw [List.length_append], hc, hc', h3, h4⟩)
/-- A guard for an arm: the next operation is an append of bytes. -/
theorem at_appendB {P : Program} {ops : Array Oper} {Q : Exit → Act → World → Prop} {a : Act} {w : World} {rest : List Oper} {d : Option Tmp} {s x : Operand} {t : TypeId} {p : String} {af : Array Edge} {g : Option (Nat × Bool)}
    (h : wpList P ops Q (⟨d, .call ⟨.builtin .append, #[s, x], #[23, 23]⟩, t, p, af, g⟩ :: rest) a w) : wpList P ops Q (⟨d, .call ⟨.builtin .append, #[s, x], #[23, 23]⟩, t, p, af, g⟩ :: rest) a w := h

theorem RB.of_row {w : World} {g o n : Nat} {l : List UInt8} (hn : l.length ≤ n) (h : Row w g o n (fun i => (l.getD i 0).toNat)) : RB w (some ⟨g, o, none⟩) l := by
  intro _
  refine ⟨g, o, rfl, fun i u hu => ?_⟩
  have hi : i < l.length := by
    rcases Nat.lt_or_ge i l.length with h' | h'
    · exact h'
    · rw [List.getElem?_eq_none h'] at hu; cases hu
  have := h.cell (i := i) (by omega)
  rw [List.getD_eq_getElem?_getD, hu] at this
  exact this
theorem run_toStringR {w : World} {A : Option Addr} {n c : Nat} {l : List UInt8} (hn : n = l.length) (hr : RB w A l) :
    (convert 23 9 (.slice A n c)).run Tryd.prog w = .ok (.string ⟨l.toArray⟩) w := by
  subst hn
  rcases hl : l with _ | ⟨b, t⟩
  · exact run_toString_nil
  · rw [← hl]
    obtain ⟨g, o, rfl, hx⟩ := hr (by rw [hl]; simp)
    refine run_convert_bytes_back w 23 9 5 ⟨g, o, none⟩ c l Tryd.underlying23 Tryd.underlying5 Tryd.underlying9 (fun j hj => ?_)
    have ha : (Addr.mk g o none).add j = ⟨g, o + j, none⟩ := by
      unfold Addr.add
      split
      · rename_i h0; subst h0; rfl
      · rfl
    rw [ha]
    exact hx j l[j] (List.getElem?_eq_getElem hj)
/-- 'string(b)'. -/
theorem wpList_toString {ops : Array Oper} {Q : Exit → Act → World → Prop} {a : Act} {w : World} {rest : List Oper} {o : Oper}
    (hw : Region.wanted o (yielded ops a.tmps) = true) (x : Operand) (ho : o.op = .convert 23 9 x) (A : Option Addr) (n c : Nat) (l : List UInt8) (hx : a.eval x = .slice A n c) (hn : n = l.length) (hr : RB w A l)
    (h : wpList Tryd.prog ops Q rest (a.put o.dst (.string ⟨l.toArray⟩)) w) : wpList Tryd.prog ops Q (o :: rest) a w :=
  wpList_value hw (exec_convert ho hx (run_toStringR hn hr)) h
/-- A guard for an arm: the next operation is 'string(b)'. -/
theorem at_toString {P : Program} {ops : Array Oper} {Q : Exit → Act → World → Prop} {a : Act} {w : World} {rest : List Oper} {d : Option Tmp} {x : Operand} {t : TypeId} {p : String} {af : Array Edge} {g : Option (Nat × Bool)}
    (h : wpList P ops Q (⟨d, .convert 23 9 x, t, p, af, g⟩ :: rest) a w) : wpList P ops Q (⟨d, .convert 23 9 x, t, p, af, g⟩ :: rest) a w := h
end Go.Proofs.YtilhgjcjofobeaaDoor
namespace Go.Proofs.YtilhgjcjofobeaaDoor
open Go.RowKit

theorem SL.one' (w : World) (s : List UInt8) (t : TypeId) (g : Nat) (hg : g = w.heap.size) : SL (w.alloc (.cells #[.string ⟨s.toArray⟩] t)) (some ⟨g, 0, none⟩) [s] := by subst hg; exact SL.one w s t
def sts (l : List (List UInt8)) : List Value := l.map (fun b => Value.string ⟨b.toArray⟩)
theorem sts_length (l : List (List UInt8)) : (sts l).length = l.length := by simp [sts]
theorem sts_append (a b : List (List UInt8)) : sts (a ++ b) = sts a ++ sts b := by simp [sts]
theorem sts_get (l : List (List UInt8)) (i : Nat) : (sts l)[i]? = l[i]?.map (fun b => Value.string ⟨b.toArray⟩) := by simp [sts]
theorem sts_one (l : List (List UInt8)) : ∀ u ∈ sts l, u.oneCell' = true := by
  intro u hu
  obtain ⟨b, _, rfl⟩ := List.mem_map.1 hu
  rfl
theorem Tryd.infoS : (Tryd.prog.info? 9).map (fun i => (i.zero, i.size, i.bytes)) = some (some (.string ⟨#[]⟩), 1, 16) := by kernel_rfl
/-- The slice v is the call's own (its row lies from block base on) and reads as l. -/
def OS (w : World) (base : Nat) (v : Value) (l : List (List UInt8)) : Prop := w.ownsRow base 9 1 v l.length (sts l)
theorem OS.nil (w : World) (base : Nat) : OS w base (.slice none 0 0) [] := World.ownsRow_nil _ _ _ _
theorem OS.alloc {w : World} {base : Nat} {v : Value} {l : List (List UInt8)} (h : OS w base v l) (o : Obj) : OS (w.alloc o) base v l := World.ownsRow.alloc h o
theorem OS.lt {w : World} {base : Nat} {v : Value} {l : List (List UInt8)} (h : OS w base v l) : ∀ k, v.ownBlock = some k → base ≤ k ∧ k < w.heap.size := World.ownsRow.lt h
theorem OS.form {w : World} {base : Nat} {v : Value} {l : List (List UInt8)} (h : OS w base v l) : ∃ A c, v = .slice A l.length c ∧ l.length ≤ c ∧ c ≤ 9223372036854775807 ∧ SL w A l := by
  obtain ⟨h1, h2⟩ := h
  rcases h2 with ⟨rfl, h0⟩ | ⟨g, cap, cur, rfl, hb, hg, hn, hm, hs, ht⟩
  · have : l = [] := List.eq_nil_of_length_eq_zero h0
    subst this
    exact ⟨none, 0, rfl, Nat.le_refl _, by decide, SL.nil _ _⟩
  · refine ⟨some ⟨g, 0, none⟩, cap, rfl, hn, by unfold maxLen at hm; omega, fun _ => ⟨g, 0, rfl, fun i u hu => ?_⟩⟩
    rw [Nat.zero_add, cell_of_row w g i cur 9 (0, 0) hg]
    have hx : (cur.toList.take (l.length * 1))[i]? = (sts l)[i]? := by rw [ht]
    have hi : i < l.length := by
      rcases Nat.lt_or_ge i l.length with h' | h'
      · exact h'
      · rw [List.getElem?_eq_none h'] at hu; cases hu
    rw [List.getElem?_take, if_pos (by omega), sts_get, hu] at hx
    simpa using hx
theorem OS.of_blocks {w w' : World} {base : Nat} {v : Value} {l : List (List UInt8)} (h : OS w base v l) (hb : ∀ k, v.ownBlock = some k → k < w.heap.size → w'.heap[k]? = w.heap[k]?) : OS w' base v l := by
  have hlt := h.lt
  obtain ⟨h1, h2⟩ := h
  refine ⟨h1, ?_⟩
  rcases h2 with ⟨rfl, h0⟩ | ⟨g, cap, cur, rfl, hbg, hg, r⟩
  · exact .inl ⟨rfl, h0⟩
  · exact .inr ⟨g, cap, cur, rfl, hbg, by rw [hb g rfl (hlt g rfl).2]; exact hg, r⟩
theorem OS.below {w w' : World} {base : Nat} {v : Value} {l : List (List UInt8)} (h : OS w base v l) (hb : Below w.heap.size w w') : OS w' base v l := h.of_blocks fun k _ hk => hb.block k hk

set_option maxRecDepth 40000 in
theorem run_append_S (t ty : TypeId) (ht : Tryd.prog.underlying t = some (.slice 9)) (w : World) (base : Nat) (v : Value) (l : List (List UInt8)) (hown : OS w base v l) (A : Option Addr) (m : List (List UInt8)) (c : Nat) (hr : SL w A m)
    (hlen : (l.length + m.length) * 16 ≤ 140737488355328) (hbase : base ≤ w.heap.size) :
    ∃ v' w', (Builtin.append_ #[t, t] ty #[v, .slice A m.length c]).run Tryd.prog w = .ok v' w' ∧ OS w' base v' (l ++ m) ∧ w.grownBy w' v.ownBlock ∧ (v'.ownBlock = v.ownBlock ∨ v'.ownBlock = some w.heap.size) := by
  obtain ⟨i0, hi, hz0, hz1, hz2⟩ := info_parts Tryd.infoS
  rcases A with _ | ad
  · have hm : m = [] := by
      rcases m with _ | ⟨b, t⟩
      · rfl
      · obtain ⟨g, o, h, _⟩ := hr (by simp); cases h
    subst hm
    refine ⟨v, w, ?_, by rw [List.append_nil]; exact hown, World.grownBy.refl w _, .inl rfl⟩
    rcases hown.2 with ⟨rfl, _⟩ | ⟨g, cap, cur, rfl, _, _, hnc, _⟩
    · simp [Builtin.append_, run_underlying ht, sizeOf, typeInfo, hi, Builtin.lenOf, Builtin.firstCells]
    · simp [Builtin.append_, run_underlying ht, sizeOf, typeInfo, hi, Builtin.lenOf, Builtin.firstCells, hnc, storeCells]
  · have hcells : ∀ j u, (sts m)[j]? = some u → w.cell? (ad.add j) = some u := by
      intro j u hu
      rw [sts_get] at hu
      rcases hj : m[j]? with _ | b
      · rw [hj] at hu; cases hu
      · have hne : m ≠ [] := by rintro rfl; simp at hj
        obtain ⟨g, o, he, hc⟩ := hr hne
        injection he with he; subst he
        rw [hj] at hu
        injection hu with hu; subst hu
        have h := hc j b hj
        have ha : (Addr.mk g o none).add j = ⟨g, o + j, none⟩ := by
          unfold Addr.add
          split
          · rename_i h0; subst h0; rfl
          · rfl
        rw [ha]; exact h
    obtain ⟨v', w', h1, h2, h3, _, h5⟩ := run_append_own_at (P := Tryd.prog) w base t ty 9 i0 (.string ⟨#[]⟩) 1 16 ht hi hz0 hz1 hz2 rfl (by decide) v l.length (sts l) hown ad m.length c (sts m) (by rw [sts_length]; omega)
      hcells (sts_one m) (by unfold maxLen; omega) (by omega) hbase
    refine ⟨v', w', h1, ?_, h3, h5⟩
    unfold OS
    rw [sts_append, List.length_append]
    exact h2
/-- What is known behind an append of strings. -/
structure AppendedS (w w' : World) (base : Nat) (v : Value) (A : Option Addr) (n c : Nat) (l : List (List UInt8)) : Prop where
  own : OS w' base (.slice A n c) l
  read : SL w' A l
  len : n = l.length
  le : n ≤ c
  le' : c ≤ 9223372036854775807
  grown : w.grownBy w' v.ownBlock
  at_ : (Value.slice A n c).ownBlock = v.ownBlock ∨ (Value.slice A n c).ownBlock = some w.heap.size
theorem AppendedS.below {w w' : World} {base n c : Nat} {v : Value} {A : Option Addr} {l l0 : List (List UInt8)} (hap : AppendedS w w' base v A n c l) (hown : OS w base v l0) (hbase : base ≤ w.heap.size) : Below base w w' :=
  (Below.refl _ _).grown hap.grown hbase (fun k hk => (hown.lt k hk).1)
theorem wpList_append_S {ops : Array Oper} {Q : Exit → Act → World → Prop} {a : Act} {w : World} {rest : List Oper} {o : Oper}
    (hw : Region.wanted o (yielded ops a.tmps) = true) (s x : Operand) (t : TypeId) (ht : Tryd.prog.underlying t = some (.slice 9)) (ho : o.op = .call { callee := .builtin .append, args := #[s, x], argTypes := #[t, t] })
    (base : Nat) (v : Value) (l : List (List UInt8)) (hs : a.eval s = v) (hown : OS w base v l) (A : Option Addr) (m : List (List UInt8)) (n c : Nat) (hx : a.eval x = .slice A n c) (hn : n = m.length) (hr : SL w A m)
    (hlen : (l.length + m.length) * 16 ≤ 140737488355328) (hbase : base ≤ w.heap.size) (k : Nat) (hk : k = l.length + n) (lm : List (List UInt8)) (hlm : lm = l ++ m)
    (h : ∀ A' c' w', AppendedS w w' base v A' k c' lm → wpList Tryd.prog ops Q rest (a.put o.dst (.slice A' k c')) w') : wpList Tryd.prog ops Q (o :: rest) a w := by
  subst hn hk hlm
  obtain ⟨v', w', h1, h2, h3, h4⟩ := run_append_S t o.type ht w base v l hown A m c hr hlen hbase
  obtain ⟨A', c', rfl, hc, hc', hr'⟩ := h2.form
  rw [List.length_append] at h1 h2 h4 hc
  exact wpList_value hw (exec_builtin2 ho hs hx h1) (h A' c' w' ⟨h2, hr', by rw [List.length_append], hc, hc', h3, h4⟩)
/-- A guard for an arm: the next operation is an append of this type. -/
theorem at_append2 {P : Program} {ops : Array Oper} {Q : Exit → Act → World → Prop} {a : Act} {w : World} {rest : List Oper} {d : Option Tmp} {s x : Operand} {t t1 : TypeId} {p : String} {af : Array Edge} {g : Option (Nat × Bool)}
    (h : wpList P ops Q (⟨d, .call ⟨.builtin .append, #[s, x], #[t1, t1]⟩, t, p, af, g⟩ :: rest) a w) : wpList P ops Q (⟨d, .call ⟨.builtin .append, #[s, x], #[t1, t1]⟩, t, p, af, g⟩ :: rest) a w := h
theorem at_appendS {P : Program} {ops : Array Oper} {Q : Exit → Act → World → Prop} {a : Act} {w : World} {rest : List Oper} {d : Option Tmp} {s x : Operand} {t : TypeId} {p : String} {af : Array Edge} {g : Option (Nat × Bool)}
    (h : wpList P ops Q (⟨d, .call ⟨.builtin .append, #[s, x], #[34, 34]⟩, t, p, af, g⟩ :: rest) a w) : wpList P ops Q (⟨d, .call ⟨.builtin .append, #[s, x], #[34, 34]⟩, t, p, af, g⟩ :: rest) a w := h
end Go.Proofs.YtilhgjcjofobeaaDoor
namespace Go.Proofs.YtilhgjcjofobeaaDoor
open Go.RowKit

/-- Every text is at most so long. -/
def allLe (N : Nat) (ls : List (List UInt8)) : Bool := ls.all fun l => decide (l.length ≤ N)
theorem allLe_snoc (N : Nat) (ls : List (List UInt8)) (k : Nat) (h : k < ls.length) : allLe N (ls.take (k + 1)) = (allLe N (ls.take k) && decide (ls[k].length ≤ N)) := by
  unfold allLe
  rw [List.take_succ_eq_append_getElem h, List.all_append]
  simp only [List.all_cons, List.all_nil, Bool.and_true]
theorem allLe_bad (N : Nat) (ls : List (List UInt8)) (k : Nat) (h : k < ls.length) (hc : N < ls[k].length) : allLe N ls = false := by
  rw [Bool.eq_false_iff]
  intro h1
  rw [allLe, List.all_eq_true] at h1
  have := h1 ls[k] (List.getElem_mem h)
  simp at this
  omega
theorem allLe_iff {N : Nat} {ls : List (List UInt8)} : allLe N ls = true ↔ ∀ l ∈ ls, l.length ≤ N := by simp [allLe]
set_option maxRecDepth 200000 in
set_option maxHeartbeats 800000 in
theorem zzFits3_any {w : World} {A : Option Addr} {n c : Nat} {ls : List (List UInt8)} (hr : SL w A ls) (hn : n = ls.length) (hl : ∀ l ∈ ls, l.length ≤ 9223372036854775807) (hm : ls.length ≤ 9223372036854775807) :
    Calls Tryd.prog 41 #[.slice A n c] w fun e w' => e = .returned (.bool (decide (ls.length ≤ 2147483647) && allLe 2147483647 ls)) ∧ w = w' := by
  subst hn
  by_cases hbig : ls.length ≤ 2147483647
  · rw [decide_eq_true hbig, Bool.true_and]
    by_cases hne : ls = []
    · subst hne
      clear hr hl
      go_enter Tryd.func41, Tryd.ntmps41
      go_wp2
      go_loop [10] (fun i => i = .int .i64 0) (fun _ => 0)
      case atStart => rfl
      case round =>
        subst hrel
        go_wp2
        go_ret
        exact ⟨rfl, rfl⟩
    · obtain ⟨g, o, rfl, hx⟩ := hr hne
      have HX := Lib.hid (And.intro hx hl)
      clear hr hx hl
      go_enter Tryd.func41, Tryd.ntmps41
      go_wp2
      go_loop [4, 10] (fun _ i => ∃ k : Nat, k ≤ ls.length ∧ i = .int .i64 k ∧ Hid (allLe 2147483647 (ls.take k) = true)) (fun _ i => ls.length - (intOf i).toNat)
      case atStart => exact ⟨0, Nat.zero_le _, rfl, Lib.hid rfl⟩
      case round =>
        obtain ⟨k, hk, rfl, hcl⟩ := hrel
        by_cases hlt : k < ls.length
        · obtain ⟨s, hs⟩ : ∃ s, s = ls[k] := ⟨_, rfl⟩
          have hcell : w.cell? ⟨g, o + k, none⟩ = some (.string ⟨s.toArray⟩) := by rw [hs]; exact HX.out.1 k ls[k] (List.getElem?_eq_getElem hlt)
          have hsl : s.length ≤ 9223372036854775807 := by rw [hs]; exact HX.out.2 _ (List.getElem_mem hlt)
          have hsn := allLe_snoc 2147483647 ls k hlt
          have hsb := allLe_bad 2147483647 ls k hlt
          rw [← hs] at hsn hsb
          have HS := Lib.hid (And.intro hsn hsb)
          clear hs hsn hsb
          by_cases hs2 : s.length ≤ 2147483647
          · go_wp2
            go_round
            case rel => exact ⟨k + 1, by omega, by go_num, Lib.hid (by rw [HS.out.1, hcl.out, decide_eq_true hs2]; rfl)⟩
            case measure => simp [intOf]; omega
          · go_wp2
            go_ret
            exact ⟨ret_bool (HS.out.2 (by omega)).symm, rfl⟩
        · go_wp2
          go_ret
          refine ⟨ret_bool ?_, rfl⟩
          have := hcl.out
          rw [List.take_of_length_le (by omega)] at this
          exact this.symm
  · rw [decide_eq_false hbig, Bool.false_and]
    clear hr hl
    go_enter Tryd.func41, Tryd.ntmps41
    go_wp2
    go_ret
    exact ⟨rfl, rfl⟩
end Go.Proofs.YtilhgjcjofobeaaDoor
namespace Go.Proofs.YtilhgjcjofobeaaDoor
open Go.RowKit

/-- nil; a sentinel; an error of the protocol; an error of a status. -/
inductive Er | nil | sent (g : Nat) | proto (s : ByteArray) | stat (a : Addr)
def Er.val (E : Nat → Addr) : Er → Value
  | .nil => .nilIface
  | .sent g => .iface 136 (.pointer (some (E g)))
  | .proto s => .iface 72 (.string s)
  | .stat a => .iface 73 (.pointer (some a))
def Er.in (gs : List Nat) : Er → Prop
  | .sent g => g ∈ gs
  | _ => True
/-- 0 fine, 1 the end, 2 cut, 3 an error of the protocol, 4 a status, 5 another. -/
def Er.num : Er → Int
  | .nil => 0
  | .sent g => if g = 0 then 1 else if g = 1 then 2 else 5
  | .proto _ => 3
  | .stat _ => 4

theorem Tryd.es_info : ∃ i, Tryd.prog.info? 136 = some i ∧ i.comparable = true := Option.map_eq_some_iff.1 (show (Tryd.prog.info? 136).map (·.comparable) = some true by kernel_rfl)
theorem Tryd.es_info' : ∃ i, Tryd.prog.info? 138 = some i ∧ decide (i.size ≠ 0) = true := Option.map_eq_some_iff.1 (show (Tryd.prog.info? 138).map (fun i => decide (i.size ≠ 0)) = some true by kernel_rfl)
theorem es_same (E : Nat → Addr) (g : Nat) (w : World) : (binOp .eql 47 (.iface 136 (.pointer (some (E g)))) (.iface 136 (.pointer (some (E g))))).run Tryd.prog w = .ok (.bool true) w := by
  obtain ⟨i, hi, hc⟩ := Tryd.es_info
  obtain ⟨j, hj, _⟩ := Tryd.es_info'
  exact run_eql_iface_ptr_same w (E g) Tryd.es_ti Tryd.underlying136 hi hc hj
theorem es_other {E : Nat → Addr} {gs : List Nat} {w : World} (h : Sens w E gs) {g k : Nat} (hg : g ∈ gs) (hk : k ∈ gs) (hne : g ≠ k) :
    (binOp .eql 47 (.iface 136 (.pointer (some (E g)))) (.iface 136 (.pointer (some (E k))))).run Tryd.prog w = .ok (.bool false) w := by
  obtain ⟨c, t, h1⟩ := (h.sen g hg).row
  obtain ⟨c', t', h2⟩ := (h.sen k hk).row
  obtain ⟨i, hi, hc⟩ := Tryd.es_info
  obtain ⟨j, hj, hz⟩ := Tryd.es_info'
  exact run_eql_iface_ptr_other w Tryd.es_ti Tryd.underlying136 hi hc hj (of_decide_eq_true hz) (h.ne hg hk hne) h1 h2
theorem es_eql {E : Nat → Addr} {gs : List Nat} {w : World} (h : Sens w E gs) {g k : Nat} (hg : g ∈ gs) (hk : k ∈ gs) :
    (binOp .eql 47 (.iface 136 (.pointer (some (E g)))) (.iface 136 (.pointer (some (E k))))).run Tryd.prog w = .ok (.bool (g == k)) w := by
  by_cases he : g = k
  · subst he; rw [beq_self_eq_true]; exact es_same E g w
  · rw [beq_false_of_ne he]; exact es_other h hg hk he

/-- x, ok := v.(T), T no interface type: v's dynamic type is another: (T's zero, false). -/
theorem run_assert_not {P : Program} {t xT u : TypeId} {d : TypeDesc} {z v : Value} (hu : P.underlying u = some d) (hd : ∀ m, d ≠ .interface m) (hne : t ≠ u) (hz : (P.info? u).map (·.zero) = some (some z)) (w : World) :
    (Instr.typeAssert (.iface t v) xT u true).run P w = .ok (.tuple #[z, .bool false]) w := by
  obtain ⟨j, hj, hz'⟩ := Option.map_eq_some_iff.1 hz
  cases d with
  | interface m => exact absurd rfl (hd m)
  | _ => simp [Instr.typeAssert, run_underlying hu, hne, zeroValue, typeInfo, hj, hz']
/-- .. is T: (the value, true). -/
theorem run_assert_is {P : Program} {xT u : TypeId} {d : TypeDesc} {v : Value} (hu : P.underlying u = some d) (hd : ∀ m, d ≠ .interface m) (w : World) :
    (Instr.typeAssert (.iface u v) xT u true).run P w = .ok (.tuple #[v, .bool true]) w := by
  cases d with
  | interface m => exact absurd rfl (hd m)
  | _ => simp [Instr.typeAssert, run_underlying hu]
theorem Tryd.assertP (t : TypeId) (v : Value) (hne : t ≠ 72) (w : World) : (Instr.typeAssert (.iface t v) 47 72 true).run Tryd.prog w = .ok (.tuple #[.string ⟨#[]⟩, .bool false]) w :=
  run_assert_not Tryd.underlying72 (fun _ h => by cases h) hne (by kernel_rfl) w
theorem Tryd.assertP' (v : Value) (w : World) : (Instr.typeAssert (.iface 72 v) 47 72 true).run Tryd.prog w = .ok (.tuple #[v, .bool true]) w :=
  run_assert_is Tryd.underlying72 (fun _ h => by cases h) w
theorem Tryd.assertE (t : TypeId) (v : Value) (hne : t ≠ 73) (w : World) : (Instr.typeAssert (.iface t v) 47 73 true).run Tryd.prog w = .ok (.tuple #[.pointer none, .bool false]) w :=
  run_assert_not Tryd.underlying73 (fun _ h => by cases h) hne (by kernel_rfl) w
theorem Tryd.assertE' (v : Value) (w : World) : (Instr.typeAssert (.iface 73 v) 47 73 true).run Tryd.prog w = .ok (.tuple #[v, .bool true]) w :=
  run_assert_is Tryd.underlying73 (fun _ h => by cases h) w
theorem state_nil (w : World) : Calls Tryd.prog 21 #[.nilIface] w fun e w' => e = .returned (.int .i64 0) ∧ w = w' := by
  go_enter Tryd.func21, Tryd.ntmps21
  go_wp2
  all_goals go_ret
  all_goals exact ⟨rfl, rfl⟩
theorem state_eof {E : Nat → Addr} {gs : List Nat} (w : World) (h : Sens w E gs) (hg : 0 ∈ gs) (hk : 1 ∈ gs) :
    Calls Tryd.prog 21 #[.iface 136 (.pointer (some (E 0)))] w fun e w' => e = .returned (.int .i64 1) ∧ w = w' := by
  have c0 := (h.sen _ hg).cell
  have c1 := (h.sen _ hk).cell
  have h0 := fun w => es_same E 0 w
  go_enter Tryd.func21, Tryd.ntmps21
  go_wp2
  all_goals go_ret
  all_goals exact ⟨rfl, rfl⟩
theorem state_cut {E : Nat → Addr} {gs : List Nat} (w : World) (h : Sens w E gs) (hg : 0 ∈ gs) (hk : 1 ∈ gs) :
    Calls Tryd.prog 21 #[.iface 136 (.pointer (some (E 1)))] w fun e w' => e = .returned (.int .i64 2) ∧ w = w' := by
  have c0 := (h.sen _ hg).cell
  have c1 := (h.sen _ hk).cell
  have h0 := es_other h hk hg (by decide)
  have h1 := fun w => es_same E 1 w
  go_enter Tryd.func21, Tryd.ntmps21
  go_wp2
  all_goals go_ret
  all_goals exact ⟨rfl, rfl⟩
theorem state_other {E : Nat → Addr} {gs : List Nat} (w : World) (h : Sens w E gs) (hg : 0 ∈ gs) (hk : 1 ∈ gs) (g : Nat) (hm : g ∈ gs) (h0 : g ≠ 0) (h1 : g ≠ 1) :
    Calls Tryd.prog 21 #[.iface 136 (.pointer (some (E g)))] w fun e w' => e = .returned (.int .i64 5) ∧ w = w' := by
  have c0 := (h.sen _ hg).cell
  have c1 := (h.sen _ hk).cell
  have e0 := es_other h hm hg h0
  have e1 := es_other h hm hk h1
  have a0 := fun v w => Tryd.assertP 136 v (by decide) w
  have a1 := fun v w => Tryd.assertE 136 v (by decide) w
  go_enter Tryd.func21, Tryd.ntmps21
  go_wp2
  all_goals go_ret
  all_goals exact ⟨rfl, rfl⟩
theorem state_proto {E : Nat → Addr} {gs : List Nat} (w : World) (h : Sens w E gs) (hg : 0 ∈ gs) (hk : 1 ∈ gs) (s : ByteArray) :
    Calls Tryd.prog 21 #[.iface 72 (.string s)] w fun e w' => e = .returned (.int .i64 3) ∧ w = w' := by
  have c0 := (h.sen _ hg).cell
  have c1 := (h.sen _ hk).cell
  have e0 := fun (t : Value) w => run_eql_iface_types 72 136 (.string s) t Tryd.es_ti (by decide) w
  have a0 := fun v w => Tryd.assertP' v w
  go_enter Tryd.func21, Tryd.ntmps21
  go_wp2
  all_goals go_ret
  all_goals exact ⟨rfl, rfl⟩
theorem state_stat {E : Nat → Addr} {gs : List Nat} (w : World) (h : Sens w E gs) (hg : 0 ∈ gs) (hk : 1 ∈ gs) (a : Addr) :
    Calls Tryd.prog 21 #[.iface 73 (.pointer (some a))] w fun e w' => e = .returned (.int .i64 4) ∧ w = w' := by
  have c0 := (h.sen _ hg).cell
  have c1 := (h.sen _ hk).cell
  have e0 := fun (t : Value) w => run_eql_iface_types 73 136 (.pointer (some a)) t Tryd.es_ti (by decide) w
  have a0 := fun v w => Tryd.assertP 73 v (by decide) w
  have a1 := fun v w => Tryd.assertE' v w
  go_enter Tryd.func21, Tryd.ntmps21
  go_wp2
  all_goals go_ret
  all_goals exact ⟨rfl, rfl⟩

/-- 'state' of any of these errors. -/
theorem state_any {E : Nat → Addr} {gs : List Nat} (w : World) (h : Sens w E gs) (hg : 0 ∈ gs) (hk : 1 ∈ gs) (er : Er) (hi : er.in gs) :
    Calls Tryd.prog 21 #[er.val E] w fun e w' => e = .returned (.int .i64 er.num) ∧ w = w' := by
  cases er with
  | nil => exact state_nil w
  | sent g =>
    by_cases h0 : g = 0
    · subst h0; exact state_eof w h hg hk
    · by_cases h1 : g = 1
      · subst h1; exact state_cut w h hg hk
      · have hn : (Er.sent g).num = 5 := by
          show (if g = 0 then (1 : Int) else if g = 1 then 2 else 5) = 5
          rw [if_neg h0, if_neg h1]
        rw [hn]
        exact state_other w h hg hk g hi h0 h1
  | proto s => exact state_proto w h hg hk s
  | stat a => exact state_stat w h hg hk a
end Go.Proofs.YtilhgjcjofobeaaDoor
namespace Go.Proofs.YtilhgjcjofobeaaDoor
open Go.ChangeShapes Go.WideShapes Go.ChangeAt Go.RowKit

theorem byte_of_wf {n : Int} (h : (Lit.int .u8 n).wf = true) : ∃ b : UInt8, n = b.toNat := by
  have h2 : 0 ≤ n ∧ n ≤ 255 := by simpa [Lit.wf, IntKind.min, IntKind.max, IntKind.signed, IntKind.bits] using h
  refine ⟨UInt8.ofNat n.toNat, ?_⟩
  rw [UInt8.toNat_ofNat_of_lt' (by show n.toNat < 256; omega)]
  omega
theorem bytes_of_nums {zs : List Int} (h : ∀ n ∈ zs, (Lit.int .u8 n).wf = true) : ∃ l : List UInt8, zs = l.map (fun b => (b.toNat : Int)) := by
  induction zs with
  | nil => exact ⟨[], rfl⟩
  | cons n t ih =>
    obtain ⟨b, hb⟩ := byte_of_wf (h n (List.mem_cons_self ..))
    obtain ⟨l, hl⟩ := ih (fun x hx => h x (List.mem_cons_of_mem _ hx))
    exact ⟨b :: l, by rw [hb, hl]; rfl⟩
set_option maxRecDepth 200000 in
/-- A slice of bytes that came in. -/
theorem open_bytesV {H : Type} {enc : TypeId × Value → H} {W : World} {b0 : Nat} {v : Value} {d : DataW H} {p : List MemPlace} (hval : Value.okWide Tryd.prog W .any b0 23 v) (hd : DataW.Trod enc Tryd.prog W 0 (fun _ => true) true 23 v d p) :
    ∃ (A : Option Addr) (n c : Nat) (l : List UInt8), v = .slice A n c ∧ n = l.length ∧ RB W A l ∧ l.length ≤ 9223372036854775807 ∧ l.length ≤ c ∧ c ≤ 9223372036854775807 := by
  obtain ⟨A, n, c, rfl⟩ := okWide_slice Tryd.underlying23 hval
  obtain ⟨fuel, hf⟩ := hd
  have hc : Tryd.prog.cellsOf 5 = 1 := by kernel_rfl
  rcases open_ints Tryd.underlying23 Tryd.underlying5 hc hf with ⟨h, _⟩ | ⟨a, len, cap, zs, h, _, hl, hm, hz, _, hcell, hw⟩
  · simp [Value.cells] at h
    obtain ⟨rfl, rfl, rfl⟩ := h
    exact ⟨none, 0, 0, [], rfl, rfl, RB.nil _ _, by decide, by decide, by decide⟩
  · simp [Value.cells] at h
    obtain ⟨rfl, rfl, rfl⟩ := h
    simp only [if_true] at hz
    obtain ⟨l, rfl⟩ := bytes_of_nums hw
    rw [List.length_map] at hz
    refine ⟨some a, n, c, l.take n, rfl, by rw [List.length_take]; omega, fun hne => ?_, by rw [List.length_take]; unfold maxLen at hm; omega, by rw [List.length_take]; omega, by unfold maxLen at hm; omega⟩
    have hn : 0 < n := by
      rcases n with _ | n
      · simp at hne
      · omega
    obtain ⟨b, off, spot⟩ := a
    have hspot : spot = none := by simpa [Addr.add] using World.cell?_spot (hcell 0 (by rw [List.length_map]; omega))
    subst hspot
    refine ⟨b, off, rfl, fun i u hu => ?_⟩
    have hi : i < n := by
      rcases Nat.lt_or_ge i n with h' | h'
      · exact h'
      · rw [List.getElem?_eq_none (by rw [List.length_take]; omega)] at hu; cases hu
    rw [List.getElem?_take_of_lt hi] at hu
    have := hcell i (by rw [List.length_map]; omega)
    have ha : (Addr.mk b off none).add i = ⟨b, off + i, none⟩ := by
      unfold Addr.add
      split
      · rename_i h0; subst h0; rfl
      · rfl
    rw [ha, List.getD_eq_getElem?_getD, List.getElem?_map, hu] at this
    exact this
end Go.Proofs.YtilhgjcjofobeaaDoor
namespace Go.Proofs.YtilhgjcjofobeaaDoor
open Go.Deep

theorem some_of_small {α : Type} {o : Option α} {f : α → Bool} (h : o.map f = some true) : ∃ x, o = some x ∧ f x = true := by
  cases o with
  | none => cases h
  | some x => exact ⟨x, rfl, by simpa using h⟩
theorem bulk_append {H : Type} (l r : List (DataW H)) : Rows.uptoBulkAll (l ++ r) = Rows.uptoBulkAll l + Rows.uptoBulkAll r := by
  induction l with
  | nil => simp [Rows.uptoBulkAll]
  | cons x l ih => simp only [List.cons_append, Rows.uptoBulkAll, ih]; omega
theorem bulk_bound {H : Type} {l : List (DataW H)} (hk : Rows.uptoSmall H l = true) : Rows.uptoBulkAll l ≤ 1048576 := of_decide_eq_true hk
theorem bulk_two {H : Type} {a b : DataW H} (hk : Rows.uptoBulkAll [a, b] ≤ 1048576) : Rows.uptoBulk a + Rows.uptoBulk b ≤ 1048576 := by simpa [Rows.uptoBulkAll] using hk
theorem bulk_slice {H : Type} (elems spare : List (DataW H)) : Rows.uptoBulkAll elems ≤ Rows.uptoBulk (.slice elems spare) := by simp only [Rows.uptoBulk]; omega
/-- A slice's elements, one by one. -/
theorem bulk_range {H : Type} (D : Nat → DataW H) (f : Nat → Nat) : ∀ n, (∀ i, i < n → f i ≤ Rows.uptoBulk (D i)) → ((List.range n).map f).sum ≤ Rows.uptoBulkAll ((List.range n).map D)
  | 0, _ => by simp
  | n + 1, h => by
    have ih := bulk_range D f n (fun i hi => h i (by omega))
    have hn := h n (by omega)
    rw [List.range_succ, List.map_append, List.map_append, List.sum_append, bulk_append]
    simp only [List.map_cons, List.map_nil, List.sum_cons, List.sum_nil, Rows.uptoBulkAll]
    omega
theorem bulk_string {H : Type} (bytes : List UInt8) : Rows.uptoBulk (DataW.lit (H := H) (.string bytes)) = bytes.length + 1 := by simp [Rows.uptoBulk]
theorem bulk_agg2 {H : Type} (a b : DataW H) : Rows.uptoBulk (.agg [a, b]) = Rows.uptoBulk a + Rows.uptoBulk b + 1 := by simp [Rows.uptoBulk, Rows.uptoBulkAll]
theorem bulk_agg3 {H : Type} (a b c : DataW H) : Rows.uptoBulk (.agg [a, b, c]) = Rows.uptoBulk a + Rows.uptoBulk b + Rows.uptoBulk c + 1 := by simp [Rows.uptoBulk, Rows.uptoBulkAll]; omega
end Go.Proofs.YtilhgjcjofobeaaDoor
namespace Go.Proofs.YtilhgjcjofobeaaDoor
open Go.ChangeShapes Go.WideShapes Go.ChangeAt Go.RowKit

/-- The weight of texts. -/
def wtS (ls : List (List UInt8)) : Nat := (ls.map fun l => l.length + 1).sum
theorem add_addL (g o i : Nat) : (Addr.mk g o none).add i = ⟨g, o + i, none⟩ := by
  unfold Addr.add
  split
  · rename_i h0; subst h0; rfl
  · rfl
theorem string_ofT {H : Type} {enc : TypeId × Value → H} {W : World} {fuel : Nat} {v : Value} {x : DataW H × List MemPlace} (h : DataW.trod enc Tryd.prog W 0 (fun _ => true) true fuel 9 [v] = some x) :
    ∃ l : List UInt8, v = .string ⟨l.toArray⟩ ∧ l.length ≤ 9223372036854775807 ∧ Rows.uptoBulk x.1 = l.length + 1 := by
  obtain ⟨s, h1, h2, h3⟩ := DataW.trod_string Tryd.underlying9 h
  obtain rfl : v = .string s := by simpa using h1
  subst h2
  refine ⟨s.data.toList, ?_, ?_, bulk_string _⟩
  · exact congrArg Value.string (mk_of s).symm
  · have : s.data.toList.length = s.size := by simp
    unfold maxLen at h3
    omega
theorem bool_ofT {H : Type} {enc : TypeId × Value → H} {W : World} {fuel : Nat} {v : Value} {t : TypeId} {x : DataW H × List MemPlace} (ht : Tryd.prog.underlying t = some .bool) (h : DataW.trod enc Tryd.prog W 0 (fun _ => true) true fuel t [v] = some x) :
    ∃ b : Bool, v = .bool b := by
  obtain ⟨b, h1, _⟩ := DataW.trod_bool ht h
  exact ⟨b, by simpa using h1⟩
set_option maxRecDepth 200000 in
/-- A slice of strings, as a cell's value. -/
theorem strings_ofT {H : Type} {enc : TypeId × Value → H} {W : World} {fuel : Nat} {v : Value} {x : DataW H × List MemPlace} (h : DataW.trod enc Tryd.prog W 0 (fun _ => true) true fuel 34 [v] = some x) :
    ∃ (A : Option Addr) (c : Nat) (ls : List (List UInt8)), v = .slice A ls.length c ∧ SL W A ls ∧ (∀ l ∈ ls, l.length ≤ 9223372036854775807) ∧ ls.length ≤ 9223372036854775807 ∧ wtS ls ≤ Rows.uptoBulk x.1 := by
  have hc : Tryd.prog.cellsOf 9 = 1 := by kernel_rfl
  rcases Deep.open_strs Tryd.underlying34 Tryd.underlying9 hc h with ⟨h1, _⟩ | ⟨a, len, cap, m, Sx, h1, _, hl, hm, hmm, rfl, hx⟩
  · obtain rfl : v = .slice none 0 0 := by simpa using h1
    exact ⟨none, 0, [], rfl, SL.nil _ _, fun _ h => (by cases h), by decide, by simp [wtS]⟩
  · obtain rfl : v = .slice (some a) len cap := by simpa using h1
    simp only [if_true] at hmm
    unfold maxLen at hm
    refine ⟨some a, cap, (List.range len).map (fun i => (Sx i).data.toList), by simp, fun hne => ?_, fun l hl2 => ?_, (by rw [List.length_map, List.length_range]; omega), ?_⟩
    · have hn : 0 < len := by
        rcases len with _ | n
        · simp at hne
        · omega
      obtain ⟨b, off, spot⟩ := a
      have hspot : spot = none := by simpa [Addr.add] using World.cell?_spot (hx 0 (by omega)).1
      subst hspot
      refine ⟨b, off, rfl, fun i d hd => ?_⟩
      have hi : i < len := by
        rcases Nat.lt_or_ge i len with h' | h'
        · exact h'
        · rw [List.getElem?_eq_none (by simpa using h')] at hd; cases hd
      rw [List.getElem?_map, List.getElem?_range hi] at hd
      injection hd with hd
      subst hd
      have h5 := (hx i (by omega)).1
      rw [add_addL] at h5
      exact h5.trans (congrArg (fun z => some (Value.string z)) (mk_of (Sx i)).symm)
    · obtain ⟨i, hi, rfl⟩ := List.mem_map.1 hl2
      have h2 := (hx i (by have := List.mem_range.1 hi; omega)).2
      have h3 : (Sx i).data.toList.length = (Sx i).size := by simp
      unfold maxLen at h2
      omega
    · refine Nat.le_trans ?_ (bulk_slice _ _)
      unfold wtS
      rw [List.map_map]
      exact bulk_range _ _ len (fun i hi => by rw [bulk_string]; exact Nat.le_refl _)
/-- A long line as it lies in memory. -/
structure LongR where
  ps : List (List UInt8)
  bl : List UInt8
  feed : Bool
def LongR.wt (L : LongR) : Nat := wtS L.ps + L.bl.length + 1
/-- A long line at a place. -/
def LongAt (w : World) (g o : Nat) (L : LongR) : Prop :=
  ∃ B c, w.cell? ⟨g, o, none⟩ = some (.slice B L.ps.length c) ∧ w.cell? ⟨g, o + 1, none⟩ = some (.string ⟨L.bl.toArray⟩) ∧ w.cell? ⟨g, o + 2, none⟩ = some (.bool L.feed) ∧ SL w B L.ps
/-- Lengths that are lengths. -/
def LongR.len (L : LongR) : Prop := (∀ l ∈ L.ps, l.length ≤ 9223372036854775807) ∧ L.ps.length ≤ 9223372036854775807 ∧ L.bl.length ≤ 9223372036854775807
theorem LongAt.below {w w' : World} {g o : Nat} {L : LongR} (h : LongAt w g o L) (hb : Below w.heap.size w w') : LongAt w' g o L := by
  obtain ⟨B, c, h1, h2, h3, h4⟩ := h
  exact ⟨B, c, (hb.cell (p := ⟨g, o, none⟩) (World.block_lt_of_cell? _ _ h1)).trans h1, (hb.cell (p := ⟨g, o + 1, none⟩) (World.block_lt_of_cell? _ _ h2)).trans h2, (hb.cell (p := ⟨g, o + 2, none⟩) (World.block_lt_of_cell? _ _ h3)).trans h3, h4.below hb⟩
/-- A slice's address under which long lines lie. -/
def LL (w : World) (A : Option Addr) (Ls : List LongR) : Prop :=
  Ls ≠ [] → ∃ g o, A = some ⟨g, o, none⟩ ∧ ∀ i L, Ls[i]? = some L → LongAt w g (o + i * 3) L
theorem LL.nil (w : World) (A : Option Addr) : LL w A [] := fun h => absurd rfl h
theorem LL.below {w w' : World} {A : Option Addr} {Ls : List LongR} (h : LL w A Ls) (hb : Below w.heap.size w w') : LL w' A Ls := by
  intro hne
  obtain ⟨g, o, he, hx⟩ := h hne
  exact ⟨g, o, he, fun i L hL => (hx i L hL).below hb⟩
set_option maxRecDepth 200000 in
/-- Three cells read as a long line. -/
theorem long_ofT {H : Type} {enc : TypeId × Value → H} {W : World} {fuel g o : Nat} {cs : List Value} {x : DataW H × List MemPlace} (hc : W.cells? 0 ⟨g, o, none⟩ 3 = some cs) (h : DataW.trod enc Tryd.prog W 0 (fun _ => true) true fuel 36 cs = some x) :
    ∃ L : LongR, LongAt W g o L ∧ L.len ∧ L.wt ≤ Rows.uptoBulk x.1 := by
  obtain ⟨_, hlen, hcell⟩ := World.cells?_some hc
  obtain ⟨y0, y1, y2, n, rfl, _, t0, t1, t2⟩ := Deep.trod_struct3 Tryd.underlying36 h
  match cs, hlen with
  | [v0, v1, v2], _ =>
    have k1 : Tryd.prog.cellsOf 34 = 1 := by kernel_rfl
    have k2 : Tryd.prog.cellsOf 9 = 1 := by kernel_rfl
    have k3 : Tryd.prog.cellsOf 4 = 1 := by kernel_rfl
    have e0 := hcell 0 (by omega)
    have e1 := hcell 1 (by omega)
    have e2 := hcell 2 (by omega)
    rw [add_addL] at e0 e1 e2
    simp only [k1, k2, k3] at t0 t1 t2
    obtain ⟨B, c, ls, rfl, hs, hl, hm, hw⟩ := strings_ofT (by simpa using t0)
    obtain ⟨bl, rfl, hbl, hbw⟩ := string_ofT (by simpa using t1)
    obtain ⟨f, rfl⟩ := bool_ofT Tryd.underlying4 (by simpa using t2)
    refine ⟨⟨ls, bl, f⟩, ⟨B, c, by simpa using e0, by simpa using e1, by simpa using e2, hs⟩, ⟨hl, hm, hbl⟩, ?_⟩
    show wtS ls + bl.length + 1 ≤ _
    rw [bulk_agg3]
    omega
end Go.Proofs.YtilhgjcjofobeaaDoor
