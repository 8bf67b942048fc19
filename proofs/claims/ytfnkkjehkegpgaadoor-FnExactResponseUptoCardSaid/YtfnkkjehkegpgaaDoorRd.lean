/- The state of a bufio.Reader: its block of seven cells, its buffer of 4096 bytes, what lies in the buffer, and what the reader beneath it still has. -/
import Derived.Test.YtfnkkjehkegpgaaDoorErrs
import Derived.Test.YtfnkkjehkegpgaaDoorMem
import Derived.BigQuiet
import Derived.Deep.QuietTactic
import Derived.StillTailTactics
import Derived.Laws.IdiomCopy
namespace Go.Proofs.YtfnkkjehkegpgaaDoor
open Go.RowKit

/-- A block that is written out: its cells, none of them frozen. -/
def Blk (w : World) (g : Nat) (cs : Array Value) (t : TypeId) : Prop := w.heap[g]? = some (.cells cs t (0, 0))
theorem Blk.cell {w : World} {g : Nat} {cs : Array Value} {t : TypeId} (h : Blk w g cs t) (i : Nat) : w.cell? ⟨g, i, none⟩ = cs[i]? := by
  unfold Blk at h
  unfold World.cell?
  simp [h]
theorem Blk.free {w : World} {g : Nat} {cs : Array Value} {t : TypeId} (h : Blk w g cs t) (i : Nat) : w.frozen? ⟨g, i, none⟩ = false := by
  unfold Blk at h
  unfold World.frozen?
  simp [h]
theorem Blk.lt {w : World} {g : Nat} {cs : Array Value} {t : TypeId} (h : Blk w g cs t) : g < w.heap.size := (Array.getElem?_eq_some_iff.1 h).1
theorem Blk.set {w : World} {g : Nat} {cs : Array Value} {t : TypeId} (h : Blk w g cs t) (i : Nat) (v : Value) : Blk (w.setCell ⟨g, i, none⟩ v) g (cs.setIfInBounds i v) t := by
  unfold Blk at h ⊢
  simp [World.setCell, Array.getElem?_modify, h]
theorem Blk.same {w w' : World} {g : Nat} {cs : Array Value} {t : TypeId} (h : Blk w g cs t) (hb : w'.heap[g]? = w.heap[g]?) : Blk w' g cs t := by
  unfold Blk at h ⊢; rw [hb, h]
theorem Blk.setOther {w : World} {g k : Nat} {cs : Array Value} {t : TypeId} (h : Blk w g cs t) (i : Nat) (v : Value) (hk : g ≠ k) : Blk (w.setCell ⟨k, i, none⟩ v) g cs t :=
  h.same (Below.heap_setCell _ _ _ _ hk)

/-- Blocks outside of S are as they were. -/
structure Chg (S : Nat → Prop) (w w' : World) : Prop where
  os : w'.os = w.os
  tape : w'.tape = w.tape
  output : w'.output = w.output
  size : w.heap.size ≤ w'.heap.size
  block : ∀ k, k < w.heap.size → ¬ S k → w'.heap[k]? = w.heap[k]?
theorem Chg.refl (S : Nat → Prop) (w : World) : Chg S w w := ⟨rfl, rfl, rfl, Nat.le_refl _, fun _ _ _ => rfl⟩
theorem Chg.trans {S : Nat → Prop} {a b c : World} (h : Chg S a b) (k : Chg S b c) : Chg S a c :=
  ⟨k.os.trans h.os, k.tape.trans h.tape, k.output.trans h.output, Nat.le_trans h.size k.size, fun i hi hs => (k.block i (Nat.lt_of_lt_of_le hi h.size) hs).trans (h.block i hi hs)⟩
theorem Chg.sub {S T : Nat → Prop} {a b : World} (h : Chg S a b) (hs : ∀ k, k < a.heap.size → S k → T k) : Chg T a b := ⟨h.os, h.tape, h.output, h.size, fun k hk hn => h.block k hk fun hS => hn (hs k hk hS)⟩
theorem Chg.drew {S : Nat → Prop} {a w : World} (h : Chg S a w) : Chg S a w.drew := ⟨h.os, h.tape, h.output, h.size, h.block⟩
theorem Chg.drewN {S : Nat → Prop} {a w : World} (h : Chg S a w) (n : Nat) : Chg S a (w.drewN n) := ⟨h.os, h.tape, h.output, h.size, h.block⟩
theorem Chg.alloc {S : Nat → Prop} {a w : World} (h : Chg S a w) (o : Obj) : Chg S a (w.alloc o) :=
  ⟨h.os, h.tape, h.output, by rw [World.size_alloc]; have := h.size; omega, fun k hk hn => (Below.heap_alloc w o k (Nat.lt_of_lt_of_le hk h.size)).trans (h.block k hk hn)⟩
theorem Chg.setCell {S : Nat → Prop} {a w : World} (h : Chg S a w) {p : Addr} (hp : p.block < a.heap.size → S p.block) (u : Value) : Chg S a (w.setCell p u) :=
  ⟨h.os, h.tape, h.output, by rw [World.size_setCell]; exact h.size, fun k hk hn => (Below.heap_setCell _ _ _ _ (fun e => by subst e; exact hn (hp hk))).trans (h.block k hk hn)⟩
theorem Chg.of_below {S : Nat → Prop} {a w w' : World} (h : Chg S a w) {B : Nat} (hb : Below B w w') (hB : ∀ k, k < a.heap.size → ¬ S k → k < B) : Chg S a w' :=
  ⟨hb.os.trans h.os, hb.tape.trans h.tape, hb.output.trans h.output, Nat.le_trans h.size hb.size, fun k hk hn => (hb.block k (hB k hk hn)).trans (h.block k hk hn)⟩
theorem Chg.below {S : Nat → Prop} {w w' : World} (h : Chg S w w') {B : Nat} (hB : ∀ k, k < B → ¬ S k) (hs : B ≤ w.heap.size) : Below B w w' :=
  ⟨h.os, h.tape, h.output, h.size, fun k hk => h.block k (Nat.lt_of_lt_of_le hk hs) (hB k hk)⟩

/-- Nothing but draws. -/
structure Only (w w' : World) : Prop where
  heap : w'.heap = w.heap
  os : w'.os = w.os
  tape : w'.tape = w.tape
  output : w'.output = w.output
theorem Only.refl (w : World) : Only w w := ⟨rfl, rfl, rfl, rfl⟩
theorem Only.drew {w w' : World} (h : Only w w') : Only w w'.drew := ⟨h.heap, h.os, h.tape, h.output⟩
theorem Only.drewN {w w' : World} (h : Only w w') (n : Nat) : Only w (w'.drewN n) := ⟨h.heap, h.os, h.tape, h.output⟩
theorem Only.trans {a b c : World} (h : Only a b) (k : Only b c) : Only a c := ⟨k.heap.trans h.heap, k.os.trans h.os, k.tape.trans h.tape, k.output.trans h.output⟩
theorem Only.chg {w w' : World} (h : Only w w') (S : Nat → Prop) : Chg S w w' := ⟨h.os, h.tape, h.output, by rw [h.heap]; exact Nat.le_refl _, fun k _ _ => by rw [h.heap]⟩
theorem Only.at_ {w w' : World} (h : Only w w') (k : Nat) : w'.heap[k]? = w.heap[k]? := by rw [h.heap]

/-- The block of a bufio.Reader: buffer bb, the reader beneath, the two marks, the error, the last byte and the last rune's size. -/
def RdC (w : World) (p bb : Nat) (rd : Value) (r n : Int) (ev : Value) (lb lr : Int) : Prop :=
  Blk w p #[.slice (some ⟨bb, 0, none⟩) 4096 4096, rd, .int .i64 r, .int .i64 n, ev, .int .i64 lb, .int .i64 lr] 89
section
variable {w : World} {p bb : Nat} {rd ev : Value} {r n lb lr : Int}
theorem RdC.c0 (h : RdC w p bb rd r n ev lb lr) : w.cell? ⟨p, 0, none⟩ = some (.slice (some ⟨bb, 0, none⟩) 4096 4096) := Blk.cell h 0
theorem RdC.c1 (h : RdC w p bb rd r n ev lb lr) : w.cell? ⟨p, 1, none⟩ = some rd := Blk.cell h 1
theorem RdC.c2 (h : RdC w p bb rd r n ev lb lr) : w.cell? ⟨p, 2, none⟩ = some (.int .i64 r) := Blk.cell h 2
theorem RdC.c3 (h : RdC w p bb rd r n ev lb lr) : w.cell? ⟨p, 3, none⟩ = some (.int .i64 n) := Blk.cell h 3
theorem RdC.c4 (h : RdC w p bb rd r n ev lb lr) : w.cell? ⟨p, 4, none⟩ = some ev := Blk.cell h 4
theorem RdC.c5 (h : RdC w p bb rd r n ev lb lr) : w.cell? ⟨p, 5, none⟩ = some (.int .i64 lb) := Blk.cell h 5
theorem RdC.c6 (h : RdC w p bb rd r n ev lb lr) : w.cell? ⟨p, 6, none⟩ = some (.int .i64 lr) := Blk.cell h 6
theorem RdC.f (h : RdC w p bb rd r n ev lb lr) (i : Nat) : w.frozen? ⟨p, i, none⟩ = false := Blk.free h i
theorem RdC.set2 (h : RdC w p bb rd r n ev lb lr) (x : Int) : RdC (w.setCell ⟨p, 2, none⟩ (.int .i64 x)) p bb rd x n ev lb lr := Blk.set h 2 _
theorem RdC.set3 (h : RdC w p bb rd r n ev lb lr) (x : Int) : RdC (w.setCell ⟨p, 3, none⟩ (.int .i64 x)) p bb rd r x ev lb lr := Blk.set h 3 _
theorem RdC.set4 (h : RdC w p bb rd r n ev lb lr) (x : Value) : RdC (w.setCell ⟨p, 4, none⟩ x) p bb rd r n x lb lr := Blk.set h 4 _
theorem RdC.set5 (h : RdC w p bb rd r n ev lb lr) (x : Int) : RdC (w.setCell ⟨p, 5, none⟩ (.int .i64 x)) p bb rd r n ev x lr := Blk.set h 5 _
theorem RdC.set6 (h : RdC w p bb rd r n ev lb lr) (x : Int) : RdC (w.setCell ⟨p, 6, none⟩ (.int .i64 x)) p bb rd r n ev lb x := Blk.set h 6 _
theorem RdC.lt (h : RdC w p bb rd r n ev lb lr) : p < w.heap.size := Blk.lt h
theorem RdC.drewN (h : RdC w p bb rd r n ev lb lr) (k : Nat) : RdC (w.drewN k) p bb rd r n ev lb lr := h
theorem RdC.drew (h : RdC w p bb rd r n ev lb lr) : RdC w.drew p bb rd r n ev lb lr := h
theorem RdC.same {w' : World} (h : RdC w p bb rd r n ev lb lr) (hb : w'.heap[p]? = w.heap[p]?) : RdC w' p bb rd r n ev lb lr := Blk.same h hb
end
theorem readErr_any {w : World} {p bb : Nat} {rd ev : Value} {r n lb lr : Int} (h : RdC w p bb rd r n ev lb lr) :
    Calls Tryd.prog 42 #[.pointer (some ⟨p, 0, none⟩)] w fun e w' => e = .returned ev ∧ w' = w.setCell ⟨p, 4, none⟩ .nilIface := by
  have h4 := h.c4
  have f4 := h.f 4
  go_enter Tryd.func42, Tryd.ntmps42
  go_wp2
  go_ret
  exact ⟨rfl, rfl⟩

/-- A fixed number of operations that only read, then a tail in one order: in the drawn world. -/
theorem wp_still_drew {P : Program} {id : Nat} {Q : Exit → Act → World → Prop} {a : Act} {w : World} {l : List Oper} (n : Nat) (hm : P.follows .mixedOrders = true) (hB : Region.lexTailB .any l.toArray n = true)
    (h : ∀ w2, w2 = w.drew → wpStill P l.toArray w2 (fun a' => wpList P l.toArray Q (l.drop n) a' w2) (l.take n) a) : (Code.region id l.toArray true).wp P Q a w := wp_region_still_tail n hm hB (h _ rfl)
theorem Tryd.mixedD : Tryd.prog.follows .mixedOrders = true := by kernel_rfl
theorem u8wrap (c : UInt8) : IntKind.u8.wrap (c.toNat : Int) = c.toNat := by
  have := byte_le c
  unfold IntKind.wrap; simp [IntKind.signed, IntKind.bits]; omega

/-- A block's first N cells hold the bytes L, and may be written. -/
structure RowB (w : World) (g N : Nat) (L : List UInt8) : Prop where
  len : L.length = N
  row : Row w g 0 N (fun i => (L.getD i 0).toNat)
theorem RowB.cell {w : World} {g N : Nat} {L : List UInt8} (h : RowB w g N L) {i : Nat} (hi : i < N) : w.cell? ⟨g, i, none⟩ = some (.int .u8 (L.getD i 0).toNat) := by
  have := h.row.cell hi
  rwa [Nat.zero_add] at this
theorem RowB.free {w : World} {g N : Nat} {L : List UInt8} (h : RowB w g N L) {i : Nat} (hi : i < N) : w.frozen? ⟨g, i, none⟩ = false := by
  have := h.row.free hi
  rwa [Nat.zero_add] at this
theorem RowB.same {w w' : World} {g N : Nat} {L : List UInt8} (h : RowB w g N L) (hb : w'.heap[g]? = w.heap[g]?) : RowB w' g N L := ⟨h.len, h.row.of_same hb⟩
theorem RowB.rb {w : World} {g N : Nat} {L : List UInt8} (h : RowB w g N L) (o : Nat) (l : List UInt8) (hl : (L.drop o).take l.length = l) (ho : o + l.length ≤ N) : RB w (some ⟨g, o, none⟩) l := by
  intro _
  refine ⟨g, o, rfl, fun i u hu => ?_⟩
  have hi : i < l.length := by
    rcases Nat.lt_or_ge i l.length with h' | h'
    · exact h'
    · rw [List.getElem?_eq_none h'] at hu; cases hu
  rw [h.cell (i := o + i) (by omega)]
  rw [← hl, List.getElem?_take_of_lt hi, List.getElem?_drop] at hu
  rw [List.getD_eq_getElem?_getD, hu]
  rfl
theorem RowB.lt {w : World} {g N : Nat} {L : List UInt8} (h : RowB w g N L) (hN : 0 < N) : g < w.heap.size := World.block_lt_of_cell? _ _ (h.cell hN)
theorem RowB.set {w : World} {g N : Nat} {L : List UInt8} (h : RowB w g N L) {i : Nat} (hi : i < N) (c : UInt8) : RowB (w.setCell ⟨g, i, none⟩ (.int .u8 c.toNat)) g N (L.set i c) := by
  refine ⟨by rw [List.length_set, h.len], ?_⟩
  have hlen := h.len
  have := h.row.set (k := i) hi (x := (c.toNat : Int)) (f' := fun j => ((L.set i c).getD j 0).toNat) (by
    simp [List.getD_eq_getElem?_getD, show i < L.length by omega]) (by
    intro j hj hji
    simp [List.getD_eq_getElem?_getD, Ne.symm hji])
  rwa [Nat.zero_add] at this
/-- L with X put in from place o on. -/
def splice (L : List UInt8) (o : Nat) (X : List UInt8) : List UInt8 := L.take o ++ X ++ L.drop (o + X.length)
theorem splice_length {L : List UInt8} {o : Nat} {X : List UInt8} (h : o + X.length ≤ L.length) : (splice L o X).length = L.length := by
  unfold splice; simp; omega
theorem splice_get {L : List UInt8} {o : Nat} {X : List UInt8} (h : o + X.length ≤ L.length) (i : Nat) : (splice L o X)[i]? = if i < o then L[i]? else if i < o + X.length then X[i - o]? else L[i]? := by
  unfold splice
  split
  · rename_i hi
    rw [List.append_assoc, List.getElem?_append_left (by simp; omega), List.getElem?_take_of_lt hi]
  · rename_i hi
    rw [List.append_assoc, List.getElem?_append_right (by simp; omega)]
    have hlen : (L.take o).length = o := by simp; omega
    rw [hlen]
    split
    · rename_i hi'
      rw [List.getElem?_append_left (by omega)]
    · rename_i hi'
      rw [List.getElem?_append_right (by omega), List.getElem?_drop]
      congr 1; omega
theorem RowB.setCells {w : World} {g N : Nat} {L : List UInt8} (h : RowB w g N L) {o : Nat} {X : List UInt8} (ho : o + X.length ≤ N) : RowB (w.setCells g o (bts X)) g N (splice L o X) := by
  have hl := h.len
  refine ⟨by rw [splice_length (by omega)]; exact hl, fun i hi => ⟨?_, ?_⟩⟩
  · show World.cell? _ _ = some (Value.int .u8 (((splice L o X).getD i 0).toNat : Int))
    rw [Nat.zero_add, List.getD_eq_getElem?_getD, splice_get (by omega)]
    by_cases h1 : o ≤ i ∧ i < o + X.length
    · have hc := World.cell?_setCells_in g (bts X) o w (fun j hj => by rw [bts_length] at hj; rw [h.cell (by omega)]; rfl) (i - o) (by rw [bts_length]; omega)
      rw [show o + (i - o) = i by omega] at hc
      rw [hc, if_neg (by omega), if_pos h1.2]
      rw [← List.getElem?_eq_getElem, bts_get, List.getElem?_eq_getElem (show i - o < X.length by omega)]
      rfl
    · rw [World.cell?_setCells_out g (bts X) o w ⟨g, i, none⟩ (fun _ _ => by rw [bts_length]; show i < o ∨ o + X.length ≤ i; omega), h.cell hi, List.getD_eq_getElem?_getD]
      by_cases h2 : i < o
      · rw [if_pos h2]
      · rw [if_neg h2, if_neg (by omega)]
  · rw [Nat.zero_add, World.frozen?_setCells]
    exact h.free hi
theorem heap_setCells (g : Nat) : ∀ (vs : List Value) (o : Nat) (w : World) (k : Nat), k ≠ g → (w.setCells g o vs).heap[k]? = w.heap[k]?
  | [], _, _, _, _ => rfl
  | v :: r, o, w, k, hk => by rw [World.setCells, heap_setCells g r (o + 1) _ k hk, Below.heap_setCell _ _ _ _ hk]
theorem size_setCells (g : Nat) : ∀ (vs : List Value) (o : Nat) (w : World), (w.setCells g o vs).heap.size = w.heap.size
  | [], _, _ => rfl
  | v :: r, o, w => by rw [World.setCells, size_setCells g r (o + 1), World.size_setCell]
theorem Chg.setCells {S : Nat → Prop} {a : World} {g : Nat} (hg : g < a.heap.size → S g) : ∀ (vs : List Value) (o : Nat) {w : World}, Chg S a w → Chg S a (w.setCells g o vs)
  | [], _, _, h => h
  | v :: r, o, _, h => Chg.setCells hg r (o + 1) (h.setCell (p := ⟨g, o, none⟩) hg v)
end Go.Proofs.YtfnkkjehkegpgaaDoor
