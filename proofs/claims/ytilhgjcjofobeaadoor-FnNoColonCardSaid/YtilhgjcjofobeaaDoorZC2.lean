/- The state of a bufio.Reader: its block of seven cells, its buffer of 4096 bytes, what lies in the buffer, and what the reader beneath it still has. | The reader beneath a bufio.Reader, told as a thing with bytes that are left; bytes.Reader is one. The walk of its Read. | A bufio.Reader's state as a whole, and the walk of its fill over a bytes.Reader. | The walk of fill over a bytes.Reader, whole. | Small methods of a bufio.Reader: readErr, Buffered; and IndexByte, as a law on lists. -/
import Derived.Test.YtilhgjcjofobeaaDoorZC1
import Derived.BigQuiet
import Derived.Deep.QuietTactic
import Derived.StillTailTactics
import Derived.Laws.IdiomCopy
import Derived.Deep.RegionHeld3
import Derived.Deep.DeepCutAuto
import Derived.Test.YtilhgjcjofobeaaDoorShelf
namespace Go.Proofs.YtilhgjcjofobeaaDoor
open Go.RowKit

/-- A block that is written out: its cells, none of them frozen. -/
def Blk (w : World) (g : Nat) (cs : Array Value) (t : TypeId) : Prop := w.heap[g]? = some (.cells cs t (0, 0))
theorem Blk.cell {w : World} {g : Nat} {cs : Array Value} {t : TypeId} (h : Blk w g cs t) (i : Nat) : w.cell? ⟨g, i, none⟩ = cs[i]? := by
  unfold Blk at h
  unfold World.cell?
  simp [h]
theorem Blk.free {w : World} {g : Nat} {cs : Array Value} {t : TypeId} (h : Blk w g cs t) (i : Nat) : w.frozen? ⟨g, i, none⟩ = false := by
  unfold Blk at h
  unfold World.frozen?
  simp [h]
theorem Blk.lt {w : World} {g : Nat} {cs : Array Value} {t : TypeId} (h : Blk w g cs t) : g < w.heap.size := (Array.getElem?_eq_some_iff.1 h).1
theorem Blk.set {w : World} {g : Nat} {cs : Array Value} {t : TypeId} (h : Blk w g cs t) (i : Nat) (v : Value) : Blk (w.setCell ⟨g, i, none⟩ v) g (cs.setIfInBounds i v) t := by
  unfold Blk at h ⊢
  simp [World.setCell, Array.getElem?_modify, h]
theorem Blk.same {w w' : World} {g : Nat} {cs : Array Value} {t : TypeId} (h : Blk w g cs t) (hb : w'.heap[g]? = w.heap[g]?) : Blk w' g cs t := by
  unfold Blk at h ⊢; rw [hb, h]
theorem Blk.setOther {w : World} {g k : Nat} {cs : Array Value} {t : TypeId} (h : Blk w g cs t) (i : Nat) (v : Value) (hk : g ≠ k) : Blk (w.setCell ⟨k, i, none⟩ v) g cs t :=
  h.same (Below.heap_setCell _ _ _ _ hk)

/-- Blocks outside of S are as they were. -/
structure Chg (S : Nat → Prop) (w w' : World) : Prop where
  os : w'.os = w.os
  tape : w'.tape = w.tape
  output : w'.output = w.output
  size : w.heap.size ≤ w'.heap.size
  block : ∀ k, k < w.heap.size → ¬ S k → w'.heap[k]? = w.heap[k]?
theorem Chg.refl (S : Nat → Prop) (w : World) : Chg S w w := ⟨rfl, rfl, rfl, Nat.le_refl _, fun _ _ _ => rfl⟩
theorem Chg.trans {S : Nat → Prop} {a b c : World} (h : Chg S a b) (k : Chg S b c) : Chg S a c :=
  ⟨k.os.trans h.os, k.tape.trans h.tape, k.output.trans h.output, Nat.le_trans h.size k.size, fun i hi hs => (k.block i (Nat.lt_of_lt_of_le hi h.size) hs).trans (h.block i hi hs)⟩
theorem Chg.sub {S T : Nat → Prop} {a b : World} (h : Chg S a b) (hs : ∀ k, k < a.heap.size → S k → T k) : Chg T a b := ⟨h.os, h.tape, h.output, h.size, fun k hk hn => h.block k hk fun hS => hn (hs k hk hS)⟩
theorem Chg.drew {S : Nat → Prop} {a w : World} (h : Chg S a w) : Chg S a w.drew := ⟨h.os, h.tape, h.output, h.size, h.block⟩
theorem Chg.drewN {S : Nat → Prop} {a w : World} (h : Chg S a w) (n : Nat) : Chg S a (w.drewN n) := ⟨h.os, h.tape, h.output, h.size, h.block⟩
theorem Chg.alloc {S : Nat → Prop} {a w : World} (h : Chg S a w) (o : Obj) : Chg S a (w.alloc o) :=
  ⟨h.os, h.tape, h.output, by rw [World.size_alloc]; have := h.size; omega, fun k hk hn => (Below.heap_alloc w o k (Nat.lt_of_lt_of_le hk h.size)).trans (h.block k hk hn)⟩
theorem Chg.setCell {S : Nat → Prop} {a w : World} (h : Chg S a w) {p : Addr} (hp : p.block < a.heap.size → S p.block) (u : Value) : Chg S a (w.setCell p u) :=
  ⟨h.os, h.tape, h.output, by rw [World.size_setCell]; exact h.size, fun k hk hn => (Below.heap_setCell _ _ _ _ (fun e => by subst e; exact hn (hp hk))).trans (h.block k hk hn)⟩
theorem Chg.of_below {S : Nat → Prop} {a w w' : World} (h : Chg S a w) {B : Nat} (hb : Below B w w') (hB : ∀ k, k < a.heap.size → ¬ S k → k < B) : Chg S a w' :=
  ⟨hb.os.trans h.os, hb.tape.trans h.tape, hb.output.trans h.output, Nat.le_trans h.size hb.size, fun k hk hn => (hb.block k (hB k hk hn)).trans (h.block k hk hn)⟩
theorem Chg.below {S : Nat → Prop} {w w' : World} (h : Chg S w w') {B : Nat} (hB : ∀ k, k < B → ¬ S k) (hs : B ≤ w.heap.size) : Below B w w' :=
  ⟨h.os, h.tape, h.output, h.size, fun k hk => h.block k (Nat.lt_of_lt_of_le hk hs) (hB k hk)⟩

/-- Nothing but draws. -/
structure Only (w w' : World) : Prop where
  heap : w'.heap = w.heap
  os : w'.os = w.os
  tape : w'.tape = w.tape
  output : w'.output = w.output
theorem Only.refl (w : World) : Only w w := ⟨rfl, rfl, rfl, rfl⟩
theorem Only.drew {w w' : World} (h : Only w w') : Only w w'.drew := ⟨h.heap, h.os, h.tape, h.output⟩
theorem Only.drewN {w w' : World} (h : Only w w') (n : Nat) : Only w (w'.drewN n) := ⟨h.heap, h.os, h.tape, h.output⟩
theorem Only.trans {a b c : World} (h : Only a b) (k : Only b c) : Only a c := ⟨k.heap.trans h.heap, k.os.trans h.os, k.tape.trans h.tape, k.output.trans h.output⟩
theorem Only.chg {w w' : World} (h : Only w w') (S : Nat → Prop) : Chg S w w' := ⟨h.os, h.tape, h.output, by rw [h.heap]; exact Nat.le_refl _, fun k _ _ => by rw [h.heap]⟩
theorem Only.at_ {w w' : World} (h : Only w w') (k : Nat) : w'.heap[k]? = w.heap[k]? := by rw [h.heap]

/-- The block of a bufio.Reader: buffer bb, the reader beneath, the two marks, the error, the last byte and the last rune's size. -/
def RdC (w : World) (p bb : Nat) (rd : Value) (r n : Int) (ev : Value) (lb lr : Int) : Prop :=
  Blk w p #[.slice (some ⟨bb, 0, none⟩) 4096 4096, rd, .int .i64 r, .int .i64 n, ev, .int .i64 lb, .int .i64 lr] 112
section
variable {w : World} {p bb : Nat} {rd ev : Value} {r n lb lr : Int}
theorem RdC.c0 (h : RdC w p bb rd r n ev lb lr) : w.cell? ⟨p, 0, none⟩ = some (.slice (some ⟨bb, 0, none⟩) 4096 4096) := Blk.cell h 0
theorem RdC.c1 (h : RdC w p bb rd r n ev lb lr) : w.cell? ⟨p, 1, none⟩ = some rd := Blk.cell h 1
theorem RdC.c2 (h : RdC w p bb rd r n ev lb lr) : w.cell? ⟨p, 2, none⟩ = some (.int .i64 r) := Blk.cell h 2
theorem RdC.c3 (h : RdC w p bb rd r n ev lb lr) : w.cell? ⟨p, 3, none⟩ = some (.int .i64 n) := Blk.cell h 3
theorem RdC.c4 (h : RdC w p bb rd r n ev lb lr) : w.cell? ⟨p, 4, none⟩ = some ev := Blk.cell h 4
theorem RdC.c5 (h : RdC w p bb rd r n ev lb lr) : w.cell? ⟨p, 5, none⟩ = some (.int .i64 lb) := Blk.cell h 5
theorem RdC.c6 (h : RdC w p bb rd r n ev lb lr) : w.cell? ⟨p, 6, none⟩ = some (.int .i64 lr) := Blk.cell h 6
theorem RdC.f (h : RdC w p bb rd r n ev lb lr) (i : Nat) : w.frozen? ⟨p, i, none⟩ = false := Blk.free h i
theorem RdC.set2 (h : RdC w p bb rd r n ev lb lr) (x : Int) : RdC (w.setCell ⟨p, 2, none⟩ (.int .i64 x)) p bb rd x n ev lb lr := Blk.set h 2 _
theorem RdC.set3 (h : RdC w p bb rd r n ev lb lr) (x : Int) : RdC (w.setCell ⟨p, 3, none⟩ (.int .i64 x)) p bb rd r x ev lb lr := Blk.set h 3 _
theorem RdC.set4 (h : RdC w p bb rd r n ev lb lr) (x : Value) : RdC (w.setCell ⟨p, 4, none⟩ x) p bb rd r n x lb lr := Blk.set h 4 _
theorem RdC.set5 (h : RdC w p bb rd r n ev lb lr) (x : Int) : RdC (w.setCell ⟨p, 5, none⟩ (.int .i64 x)) p bb rd r n ev x lr := Blk.set h 5 _
theorem RdC.set6 (h : RdC w p bb rd r n ev lb lr) (x : Int) : RdC (w.setCell ⟨p, 6, none⟩ (.int .i64 x)) p bb rd r n ev lb x := Blk.set h 6 _
theorem RdC.lt (h : RdC w p bb rd r n ev lb lr) : p < w.heap.size := Blk.lt h
theorem RdC.drewN (h : RdC w p bb rd r n ev lb lr) (k : Nat) : RdC (w.drewN k) p bb rd r n ev lb lr := h
theorem RdC.drew (h : RdC w p bb rd r n ev lb lr) : RdC w.drew p bb rd r n ev lb lr := h
theorem RdC.same {w' : World} (h : RdC w p bb rd r n ev lb lr) (hb : w'.heap[p]? = w.heap[p]?) : RdC w' p bb rd r n ev lb lr := Blk.same h hb
end
theorem readErr_any {w : World} {p bb : Nat} {rd ev : Value} {r n lb lr : Int} (h : RdC w p bb rd r n ev lb lr) :
    Calls Tryd.prog 64 #[.pointer (some ⟨p, 0, none⟩)] w fun e w' => e = .returned ev ∧ w' = w.setCell ⟨p, 4, none⟩ .nilIface := by
  have h4 := h.c4
  have f4 := h.f 4
  go_enter Tryd.func64, Tryd.ntmps64
  go_wp2
  go_ret
  exact ⟨rfl, rfl⟩

/-- A fixed number of operations that only read, then a tail in one order: in the drawn world. -/
theorem wp_still_drew {P : Program} {id : Nat} {Q : Exit → Act → World → Prop} {a : Act} {w : World} {l : List Oper} (n : Nat) (hm : P.follows .mixedOrders = true) (hB : Region.lexTailB .any l.toArray n = true)
    (h : ∀ w2, w2 = w.drew → wpStill P l.toArray w2 (fun a' => wpList P l.toArray Q (l.drop n) a' w2) (l.take n) a) : (Code.region id l.toArray true).wp P Q a w := wp_region_still_tail n hm hB (h _ rfl)
theorem Tryd.mixedD : Tryd.prog.follows .mixedOrders = true := by kernel_rfl
theorem u8wrap (c : UInt8) : IntKind.u8.wrap (c.toNat : Int) = c.toNat := by
  have := byte_le c
  unfold IntKind.wrap; simp [IntKind.signed, IntKind.bits]; omega

/-- A block's first N cells hold the bytes L, and may be written. -/
structure RowB (w : World) (g N : Nat) (L : List UInt8) : Prop where
  len : L.length = N
  row : Row w g 0 N (fun i => (L.getD i 0).toNat)
theorem RowB.cell {w : World} {g N : Nat} {L : List UInt8} (h : RowB w g N L) {i : Nat} (hi : i < N) : w.cell? ⟨g, i, none⟩ = some (.int .u8 (L.getD i 0).toNat) := by
  have := h.row.cell hi
  rwa [Nat.zero_add] at this
theorem RowB.free {w : World} {g N : Nat} {L : List UInt8} (h : RowB w g N L) {i : Nat} (hi : i < N) : w.frozen? ⟨g, i, none⟩ = false := by
  have := h.row.free hi
  rwa [Nat.zero_add] at this
theorem RowB.same {w w' : World} {g N : Nat} {L : List UInt8} (h : RowB w g N L) (hb : w'.heap[g]? = w.heap[g]?) : RowB w' g N L := ⟨h.len, h.row.of_same hb⟩
theorem RowB.rb {w : World} {g N : Nat} {L : List UInt8} (h : RowB w g N L) (o : Nat) (l : List UInt8) (hl : (L.drop o).take l.length = l) (ho : o + l.length ≤ N) : RB w (some ⟨g, o, none⟩) l := by
  intro _
  refine ⟨g, o, rfl, fun i u hu => ?_⟩
  have hi : i < l.length := by
    rcases Nat.lt_or_ge i l.length with h' | h'
    · exact h'
    · rw [List.getElem?_eq_none h'] at hu; cases hu
  rw [h.cell (i := o + i) (by omega)]
  rw [← hl, List.getElem?_take_of_lt hi, List.getElem?_drop] at hu
  rw [List.getD_eq_getElem?_getD, hu]
  rfl
theorem RowB.lt {w : World} {g N : Nat} {L : List UInt8} (h : RowB w g N L) (hN : 0 < N) : g < w.heap.size := World.block_lt_of_cell? _ _ (h.cell hN)
theorem RowB.set {w : World} {g N : Nat} {L : List UInt8} (h : RowB w g N L) {i : Nat} (hi : i < N) (c : UInt8) : RowB (w.setCell ⟨g, i, none⟩ (.int .u8 c.toNat)) g N (L.set i c) := by
  refine ⟨by rw [List.length_set, h.len], ?_⟩
  have hlen := h.len
  have := h.row.set (k := i) hi (x := (c.toNat : Int)) (f' := fun j => ((L.set i c).getD j 0).toNat) (by
    simp [List.getD_eq_getElem?_getD, show i < L.length by omega]) (by
    intro j hj hji
    simp [List.getD_eq_getElem?_getD, Ne.symm hji])
  rwa [Nat.zero_add] at this
/-- L with X put in from place o on. -/
def splice (L : List UInt8) (o : Nat) (X : List UInt8) : List UInt8 := L.take o ++ X ++ L.drop (o + X.length)
theorem splice_length {L : List UInt8} {o : Nat} {X : List UInt8} (h : o + X.length ≤ L.length) : (splice L o X).length = L.length := by
  unfold splice; simp; omega
theorem splice_get {L : List UInt8} {o : Nat} {X : List UInt8} (h : o + X.length ≤ L.length) (i : Nat) : (splice L o X)[i]? = if i < o then L[i]? else if i < o + X.length then X[i - o]? else L[i]? := by
  unfold splice
  split
  · rename_i hi
    rw [List.append_assoc, List.getElem?_append_left (by simp; omega), List.getElem?_take_of_lt hi]
  · rename_i hi
    rw [List.append_assoc, List.getElem?_append_right (by simp; omega)]
    have hlen : (L.take o).length = o := by simp; omega
    rw [hlen]
    split
    · rename_i hi'
      rw [List.getElem?_append_left (by omega)]
    · rename_i hi'
      rw [List.getElem?_append_right (by omega), List.getElem?_drop]
      congr 1; omega
theorem RowB.setCells {w : World} {g N : Nat} {L : List UInt8} (h : RowB w g N L) {o : Nat} {X : List UInt8} (ho : o + X.length ≤ N) : RowB (w.setCells g o (bts X)) g N (splice L o X) := by
  have hl := h.len
  refine ⟨by rw [splice_length (by omega)]; exact hl, fun i hi => ⟨?_, ?_⟩⟩
  · show World.cell? _ _ = some (Value.int .u8 (((splice L o X).getD i 0).toNat : Int))
    rw [Nat.zero_add, List.getD_eq_getElem?_getD, splice_get (by omega)]
    by_cases h1 : o ≤ i ∧ i < o + X.length
    · have hc := World.cell?_setCells_in g (bts X) o w (fun j hj => by rw [bts_length] at hj; rw [h.cell (by omega)]; rfl) (i - o) (by rw [bts_length]; omega)
      rw [show o + (i - o) = i by omega] at hc
      rw [hc, if_neg (by omega), if_pos h1.2]
      rw [← List.getElem?_eq_getElem, bts_get, List.getElem?_eq_getElem (show i - o < X.length by omega)]
      rfl
    · rw [World.cell?_setCells_out g (bts X) o w ⟨g, i, none⟩ (fun _ _ => by rw [bts_length]; show i < o ∨ o + X.length ≤ i; omega), h.cell hi, List.getD_eq_getElem?_getD]
      by_cases h2 : i < o
      · rw [if_pos h2]
      · rw [if_neg h2, if_neg (by omega)]
  · rw [Nat.zero_add, World.frozen?_setCells]
    exact h.free hi
theorem heap_setCells (g : Nat) : ∀ (vs : List Value) (o : Nat) (w : World) (k : Nat), k ≠ g → (w.setCells g o vs).heap[k]? = w.heap[k]?
  | [], _, _, _, _ => rfl
  | v :: r, o, w, k, hk => by rw [World.setCells, heap_setCells g r (o + 1) _ k hk, Below.heap_setCell _ _ _ _ hk]
theorem size_setCells (g : Nat) : ∀ (vs : List Value) (o : Nat) (w : World), (w.setCells g o vs).heap.size = w.heap.size
  | [], _, _ => rfl
  | v :: r, o, w => by rw [World.setCells, size_setCells g r (o + 1), World.size_setCell]
theorem Chg.setCells {S : Nat → Prop} {a : World} {g : Nat} (hg : g < a.heap.size → S g) : ∀ (vs : List Value) (o : Nat) {w : World}, Chg S a w → Chg S a (w.setCells g o vs)
  | [], _, _, h => h
  | v :: r, o, _, h => Chg.setCells hg r (o + 1) (h.setCell (p := ⟨g, o, none⟩) hg v)
end Go.Proofs.YtilhgjcjofobeaaDoor
namespace Go.Proofs.YtilhgjcjofobeaaDoor
open Go.RowKit

theorem exec_builtin_copy {P : Program} {o : Oper} {a : Act} {w w' : World} {s x : Operand} {t u : TypeId} {v v' y : Value} (ho : o.op = .call { callee := .builtin .copy, args := #[s, x], argTypes := #[t, u] })
    (hs : a.eval s = v) (hx : a.eval x = y) (hr : (Builtin.copy_ #[t, u] o.type #[v, y]).run P w = .ok v' w') : (execOp a.eval o).run P w = .ok (.value v') w' := by
  unfold execOp
  simp only [ho, resolve, invoke, builtin, Sem.run_bind, Sem.run_pure, Result.andThen_ok, List.map_toArray, List.map_cons, List.map_nil, hs, hx, hr]
theorem addr_add (g o i : Nat) : (Addr.mk g o none).add i = ⟨g, o + i, none⟩ := by
  unfold Addr.add
  split
  · rename_i h0; subst h0; rfl
  · rfl
set_option maxRecDepth 100000 in
/-- 'copy(d, s)', d within the first N cells of a block of bytes. -/
theorem run_copy_B {w : World} {g dof dl dc : Nat} {A : Option Addr} {sl sc : Nat} {l : List UInt8} (hsl : sl = l.length) (hr : RB w A l) {N : Nat} {L : List UInt8} (hrow : RowB w g N L) (hN : dof + dl ≤ N) (ty : TypeId) :
    (Builtin.copy_ #[23, 23] ty #[.slice (some ⟨g, dof, none⟩) dl dc, .slice A sl sc]).run Tryd.prog w = .ok (.int .i64 (min sl dl : Nat)) (w.setCells g dof (bts (l.take (min sl dl)))) := by
  subst hsl
  have hsz : (Tryd.prog.info? 5).map (·.size) = some 1 := by kernel_rfl
  by_cases h0 : min l.length dl = 0
  · rw [run_copy_none w 23 23 ty 5 _ A dl dc l.length sc Tryd.underlying23 hsz h0, h0]
    rfl
  · have hne : l ≠ [] := by rintro rfl; simp at h0
    obtain ⟨sg, so, rfl, hx⟩ := hr hne
    have hlen : (bts (l.take (min l.length dl))).length = min l.length dl := by rw [bts_length, List.length_take, Nat.min_assoc, Nat.min_comm dl, ← Nat.min_assoc, Nat.min_self]
    rw [run_copy_cells w 23 23 ty 5 g dof dl dc ⟨sg, so, none⟩ l.length sc (bts (l.take (min l.length dl))) Tryd.underlying23 hsz (by rw [hlen]) (fun j v hv => ?_) (fun j hj => ?_) (fun j hj => ?_) (bts_one _), hlen]
    · rfl
    · rw [bts_get] at hv
      rw [addr_add]
      cases hj : (l.take (min l.length dl))[j]? with
      | none => rw [hj] at hv; cases hv
      | some u =>
        rw [hj] at hv
        injection hv with hv
        subst hv
        refine hx j u ?_
        rw [List.getElem?_take] at hj
        split at hj
        · exact hj
        · cases hj
    · rw [hlen] at hj
      rw [hrow.cell (by omega)]; rfl
    · rw [hlen] at hj
      exact hrow.free (by omega)
set_option maxRecDepth 100000 in
theorem wpList_copy_B {ops : Array Oper} {Q : Exit → Act → World → Prop} {a : Act} {w : World} {rest : List Oper} {o : Oper}
    (hw : Region.wanted o (yielded ops a.tmps) = true) (d s : Operand) (ho : o.op = .call { callee := .builtin .copy, args := #[d, s], argTypes := #[23, 23] })
    (g dof dl dc : Nat) (hd : a.eval d = .slice (some ⟨g, dof, none⟩) dl dc) (A : Option Addr) (sl sc : Nat) (hs : a.eval s = .slice A sl sc) (l : List UInt8) (hsl : sl = l.length) (hr : RB w A l)
    {N : Nat} {L : List UInt8} (hrow : RowB w g N L) (hN : dof + dl ≤ N) (k : Nat) (hk : k = min sl dl)
    (h : wpList Tryd.prog ops Q rest (a.put o.dst (.int .i64 k)) (w.setCells g dof (bts (l.take k)))) : wpList Tryd.prog ops Q (o :: rest) a w := by
  rw [hk] at h
  exact wpList_value hw (exec_builtin_copy ho hd hs (run_copy_B hsl hr hrow hN o.type)) h
/-- A guard for an arm: the next operation is a copy of bytes. -/
theorem at_copyB {P : Program} {ops : Array Oper} {Q : Exit → Act → World → Prop} {a : Act} {w : World} {rest : List Oper} {d : Option Tmp} {s x : Operand} {t : TypeId} {p : String} {af : Array Edge} {g : Option (Nat × Bool)}
    (h : wpList P ops Q (⟨d, .call ⟨.builtin .copy, #[s, x], #[23, 23]⟩, t, p, af, g⟩ :: rest) a w) : wpList P ops Q (⟨d, .call ⟨.builtin .copy, #[s, x], #[23, 23]⟩, t, p, af, g⟩ :: rest) a w := h

/-- Sentinels that lie below a base. -/
structure SensB (base : Nat) (w : World) (E : Nat → Addr) (gs : List Nat) : Prop where
  s : Sens w E gs
  lo : ∀ g ∈ gs, g < base ∧ (E g).block < base
theorem SensB.below {base : Nat} {w w' : World} {E : Nat → Addr} {gs : List Nat} (h : SensB base w E gs) (hb : Below base w w') : SensB base w' E gs :=
  ⟨h.s.of_blocks fun g hg => ⟨hb.block _ (h.lo g hg).1, hb.block _ (h.lo g hg).2⟩, h.lo⟩

/-- A reader beneath: its interface value, what it has left, the blocks that it lives in. -/
structure Und where
  rd : Value
  at_ : World → List UInt8 → Prop
  own : Nat → Prop
  same : ∀ {w w' : World} {U : List UInt8}, at_ w U → (∀ k, own k → w'.heap[k]? = w.heap[k]?) → at_ w' U
  lt : ∀ {w : World} {U : List UInt8}, at_ w U → ∀ k, own k → k < w.heap.size

/-- A bytes.Reader in block q over bytes of block sb. -/
def BR (q sb : Nat) (w : World) (U : List UInt8) : Prop :=
  ∃ (A : Option Addr) (n c i : Nat) (l : List UInt8) (pr : Int), Blk w q #[.slice A n c, .int .i64 i, .int .i64 pr] 86 ∧ RB w A l ∧ (∀ g o, A = some ⟨g, o, none⟩ → g = sb) ∧ sb < w.heap.size ∧ l.length = n ∧ n ≤ c ∧ c ≤ 9223372036854775807 ∧ i ≤ n ∧ l.drop i = U
theorem BR.same {q sb : Nat} {w w' : World} {U : List UInt8} (h : BR q sb w U) (hs : ∀ k, (k = q ∨ k = sb) → w'.heap[k]? = w.heap[k]?) : BR q sb w' U := by
  obtain ⟨A, n, c, i, l, pr, h1, h2, h3, h4, h5, h6, h7, h8, h9⟩ := h
  have hsb := hs sb (.inr rfl)
  refine ⟨A, n, c, i, l, pr, h1.same (hs q (.inl rfl)), h2.same (fun g o he _ => ?_), h3, ?_, h5, h6, h7, h8, h9⟩
  · have := h3 g o he; subst this; exact hsb
  · rcases Nat.lt_or_ge sb w'.heap.size with h' | h'
    · exact h'
    · rw [Array.getElem?_eq_none h', Array.getElem?_eq_getElem h4] at hsb; cases hsb
def KB (q sb : Nat) : Und where
  rd := .iface 66 (.pointer (some ⟨q, 0, none⟩))
  at_ := BR q sb
  own k := k = q ∨ k = sb
  same h hs := h.same hs
  lt h k hk := by
    obtain ⟨A, n, c, i, l, pr, h1, h2, h3, h4, _⟩ := h
    rcases hk with rfl | rfl
    · exact h1.lt
    · exact h4

theorem brRead_end {E : Nat → Addr} {gs : List Nat} {q sb : Nat} {w : World} (h : BR q sb w []) (hs : Sens w E gs) (hg : 0 ∈ gs) (dst : Value) :
    Calls Tryd.prog 114 #[.pointer (some ⟨q, 0, none⟩), dst] w fun e w' => e = .returned (.tuple #[.int .i64 0, .iface 136 (.pointer (some (E 0)))]) ∧ Only w w' := by
  obtain ⟨A, n, c, i, l, pr, h1, h2, h3, h4, h5, h6, h7, h8, h9⟩ := h
  have hin : n = i := by
    have : (l.drop i).length = 0 := by rw [h9]; rfl
    rw [List.length_drop] at this; omega
  subst hin
  have c0 : w.cell? ⟨q, 0, none⟩ = some (.slice A n c) := h1.cell 0
  have c1 : w.cell? ⟨q, 1, none⟩ = some (.int .i64 n) := h1.cell 1
  have hE := (hs.sen _ hg).cell
  clear h1 h2 h3 h4 h5 h9 hs
  go_enter Tryd.func114, Tryd.ntmps114
  go_wp2
  go_quiet (fail)
  go_wp2
  go_quiet (fail)
  go_wp2
  go_ret2
  exact ⟨rfl, ((Only.refl _).drewN _).drewN _⟩
theorem RB.drop {w : World} {g o : Nat} {l : List UInt8} (h : RB w (some ⟨g, o, none⟩) l) (i : Nat) : RB w (some ⟨g, o + i, none⟩) (l.drop i) := by
  intro hne
  have hl : l ≠ [] := by rintro rfl; simp at hne
  obtain ⟨g', o', he, hx⟩ := h hl
  injection he with he
  injection he with h1 h2
  subst h1; subst h2
  refine ⟨_, _, rfl, fun j u hu => ?_⟩
  rw [List.getElem?_drop] at hu
  rw [Nat.add_assoc]
  exact hx _ u hu
set_option maxRecDepth 200000 in
theorem brRead_some {q sb : Nat} {w : World} {U : List UInt8} (h : BR q sb w U) (hU : U ≠ []) {g o m c N : Nat} {L : List UInt8} (hrow : RowB w g N L) (hm : 0 < m) (hN : o + m ≤ N) (hgq : g ≠ q) (hgs : g ≠ sb) (hsq : sb ≠ q) :
    Calls Tryd.prog 114 #[.pointer (some ⟨q, 0, none⟩), .slice (some ⟨g, o, none⟩) m c] w fun e w' =>
      e = .returned (.tuple #[.int .i64 (min U.length m : Nat), .nilIface]) ∧ BR q sb w' (U.drop m) ∧ RowB w' g N (splice L o (U.take m)) ∧ Chg (fun k => k = q ∨ k = g) w w' := by
  obtain ⟨A, n, cc, i, l, pr, h1, h2, h3, h4, h5, h6, h7, h8, h9⟩ := h
  have hin : i < n := by
    have : 0 < (l.drop i).length := by rw [h9]; exact List.length_pos_iff.2 hU
    rw [List.length_drop] at this; omega
  have c0 : w.cell? ⟨q, 0, none⟩ = some (.slice A n cc) := h1.cell 0
  have c1 : w.cell? ⟨q, 1, none⟩ = some (.int .i64 i) := h1.cell 1
  have c2 : w.cell? ⟨q, 2, none⟩ = some (.int .i64 pr) := h1.cell 2
  have f2 := h1.free 2
  obtain ⟨sg, so, hA, _⟩ := h2 (by rintro rfl; simp at h5; omega)
  subst hA
  obtain rfl := h3 sg so rfl
  have hci : ¬ cc = i := by omega
  have hk : min (n - i) m = min U.length m := by rw [← h9, List.length_drop, h5]
  have hdl : (l.drop i).length = n - i := by rw [List.length_drop, h5]
  have H := Lib.hid (And.intro h1 (And.intro h2 (And.intro h3 (And.intro hrow (And.intro h9 (And.intro h5 (And.intro hk hdl)))))))
  clear h1 h2 h3 hrow h5 h9 hk hdl
  go_enter Tryd.func114, Tryd.ntmps114
  go_wp2
  go_quiet (fail)
  go_wp2
  have hO : Only w (w.drewN nq) := (Only.refl w).drewN nq
  have H1 := H.out
  have B1 : Blk ((w.drewN nq).setCell ⟨q, 2, none⟩ (.int .i64 (-1))) q #[.slice (some ⟨sg, so, none⟩) n cc, .int .i64 i, .int .i64 (-1)] 86 := (H1.1.same (hO.at_ q)).set 2 _
  have C1 : Chg (fun k => k = q) w ((w.drewN nq).setCell ⟨q, 2, none⟩ (.int .i64 (-1))) := (hO.chg (fun k => k = q)).setCell (p := ⟨q, 2, none⟩) (fun _ => rfl) _
  generalize (w.drewN nq).setCell ⟨q, 2, none⟩ (.int .i64 (-1)) = w1 at B1 C1 ⊢
  refine wp_still_drew 10 Tryd.mixedD (by kernel_rfl) (fun w2 hw2 => ?_)
  replace B1 : Blk w2 q #[.slice (some ⟨sg, so, none⟩) n cc, .int .i64 i, .int .i64 (-1)] 86 := by rw [hw2]; exact B1
  replace C1 : Chg (fun k => k = q) w w2 := by rw [hw2]; exact C1.drew
  clear hw2 c0 c1 c2 f2 hO
  have c0 : w2.cell? ⟨q, 0, none⟩ = some (.slice (some ⟨sg, so, none⟩) n cc) := B1.cell 0
  have c1 : w2.cell? ⟨q, 1, none⟩ = some (.int .i64 i) := B1.cell 1
  have f1 := B1.free 1
  have h2 : RB w2 (some ⟨sg, so, none⟩) l := H1.2.1.same (fun g' o' he _ => C1.block _ (by have := H1.2.2.1 g' o' he; omega) (by have := H1.2.2.1 g' o' he; show ¬ g' = q; omega))
  have K := Lib.hid (And.intro B1 C1)
  clear H1 B1 C1
  simp only [List.take_succ_cons, List.take_zero, List.drop_succ_cons, List.drop_zero]
  repeat still_step
  refine wpStill_nil ?_
  obtain ⟨B1, C1⟩ := K.out
  obtain ⟨hB, hrl, hsame, hrow, h9, h5, hk, hdl⟩ := H.out
  have hrow2 : RowB w2 g N L := hrow.same (C1.block _ (hrow.lt (by omega)) hgq)
  refine wpList_copy_B rfl (.tmp 20) (.tmp 29) rfl g o m c rfl (some ⟨sg, so + i, none⟩) (n - i) (cc - i) rfl (l.drop i) hdl.symm (h2.drop i) hrow2 hN (min (n - i) m) rfl ?_
  have hX : (l.drop i).take (min (n - i) m) = U.take m := by
    rw [h9, hk, List.take_eq_take_iff]; omega
  have hkl : (U.take m).length = min (n - i) m := by rw [hk, List.length_take, Nat.min_comm]
  rw [hX]
  have R3 : RowB (w2.setCells g o (bts (U.take m))) g N (splice L o (U.take m)) := hrow2.setCells (by rw [hkl]; omega)
  have B3 : Blk (w2.setCells g o (bts (U.take m))) q #[.slice (some ⟨sg, so, none⟩) n cc, .int .i64 i, .int .i64 (-1)] 86 := B1.same (heap_setCells g _ _ _ _ (Ne.symm hgq))
  have S3 : RB (w2.setCells g o (bts (U.take m))) (some ⟨sg, so, none⟩) l := h2.same (fun g' o' he _ => heap_setCells g _ _ _ _ (by have := hsame g' o' he; omega))
  have C3 : Chg (fun k => k = q ∨ k = g) w (w2.setCells g o (bts (U.take m))) := (C1.sub (fun _ _ h => .inl h)).setCells (g := g) (fun _ => .inr rfl) _ _
  generalize w2.setCells g o (bts (U.take m)) = w3 at R3 B3 S3 C3 ⊢
  clear c0 c1 f1 h2 B1 C1 hB hrl hrow hrow2
  have c1 : w3.cell? ⟨q, 1, none⟩ = some (.int .i64 i) := B3.cell 1
  have f1 := B3.free 1
  have hnum : min (n - i) m = min U.length m := hk
  have K2 := Lib.hid (And.intro R3 (And.intro B3 (And.intro S3 (And.intro C3 (And.intro hX (And.intro hkl (And.intro h9 (And.intro hk hsame))))))))
  clear R3 B3 S3 C3 hX hkl hsame h9 hk hdl h5 hnum
  go_wp2
  go_ret2
  obtain ⟨R3, B3, S3, C3, hX, hkl, h9, hk, hsame⟩ := K2.out
  obtain ⟨_, _, _, _, _, h5, _, _⟩ := H.out
  have hd : l.drop (i + min (n - i) m) = U.drop m := by
    rw [← List.drop_drop, h9, hk]
    rcases Nat.le_total U.length m with h' | h'
    · rw [Nat.min_eq_left h', List.drop_length, List.drop_eq_nil_of_le h']
    · rw [Nat.min_eq_right h']
  refine ⟨by rw [hk]; rfl, ?_, R3.same (Below.heap_setCell _ _ _ _ hgq), C3.setCell (p := ⟨q, 1, none⟩) (fun _ => .inl rfl) _⟩
  refine ⟨some ⟨sg, so, none⟩, n, cc, i + min (n - i) m, l, -1, ?_, S3.same (fun g' o' he _ => Below.heap_setCell _ _ _ _ (by have := hsame g' o' he; show g' ≠ q; omega)), hsame, ?_, h5, h6, h7, by omega, hd⟩
  · have := B3.set 1 (.int .i64 ((i : Int) + (min (n - i) m : Nat)))
    rw [show ((i + min (n - i) m : Nat) : Int) = (i : Int) + (min (n - i) m : Nat) by omega]
    exact this
  · rw [World.size_setCell]
    exact Nat.lt_of_lt_of_le h4 C3.size
end Go.Proofs.YtilhgjcjofobeaaDoor
namespace Go.Proofs.YtilhgjcjofobeaaDoor
open Go.RowKit

/-- The error that a bufio.Reader keeps: none, or the end. -/
def eofV (E : Nat → Addr) : Bool → Value
  | true => .iface 136 (.pointer (some (E 0)))
  | false => .nilIface
/-- What stays of a bufio.Reader: its blocks, apart from each other, at or above a base. -/
structure Lay (K : Und) (base p bb : Nat) : Prop where
  nb : p ≠ bb
  np : ¬ K.own p
  nbb : ¬ K.own bb
  bp : base ≤ p
  bb_ : base ≤ bb
  bo : ∀ k, K.own k → base ≤ k
/-- The state: B lies in the buffer from r on, U is left beneath. -/
structure Rd (K : Und) (base : Nat) (E : Nat → Addr) (gs : List Nat) (p bb : Nat) (w : World) (B U : List UInt8) (r : Nat) (z : Bool) (lb lr : Int) : Prop where
  lay : Lay K base p bb
  c : RdC w p bb K.rd r ((r + B.length : Nat) : Int) (eofV E z) lb lr
  row : ∃ L, RowB w bb 4096 L ∧ (L.drop r).take B.length = B
  le : r + B.length ≤ 4096
  u : K.at_ w U
  end_ : z = true → U = [] ∧ r + B.length < 4096
  s : SensB base w E gs
/-- The blocks of a bufio.Reader. -/
def Rd.S (K : Und) (p bb : Nat) (k : Nat) : Prop := k = p ∨ k = bb ∨ K.own k
theorem Lay.below {K : Und} {base p bb : Nat} (h : Lay K base p bb) {w w' : World} (hc : Chg (Rd.S K p bb) w w') (hb : base ≤ w.heap.size) : Below base w w' :=
  hc.below (fun k hk hs => by
    rcases hs with rfl | rfl | hs
    · have := h.bp; omega
    · have := h.bb_; omega
    · have := h.bo k hs; omega) hb

theorem Rd.only {K : Und} {base p bb : Nat} {E : Nat → Addr} {gs : List Nat} {w w' : World} {B U : List UInt8} {r : Nat} {z : Bool} {lb lr : Int} (h : Rd K base E gs p bb w B U r z lb lr) (ho : Only w w') : Rd K base E gs p bb w' B U r z lb lr := by
  obtain ⟨L, hL, hB⟩ := h.row
  exact ⟨h.lay, h.c.same (ho.at_ p), ⟨L, hL.same (ho.at_ bb), hB⟩, h.le, K.same h.u (fun k _ => ho.at_ k), h.end_, ⟨h.s.s.of_blocks fun g _ => ⟨ho.at_ g, ho.at_ _⟩, h.s.lo⟩⟩
theorem Rd.size {K : Und} {base p bb : Nat} {E : Nat → Addr} {gs : List Nat} {w : World} {B U : List UInt8} {r : Nat} {z : Bool} {lb lr : Int} (h : Rd K base E gs p bb w B U r z lb lr) : base ≤ w.heap.size :=
  Nat.le_trans h.lay.bp (Nat.le_of_lt h.c.lt)
/-- A bufio.Reader's state anew, out of a step that has turned nothing but its own blocks. -/
theorem Rd.new {K : Und} {base p bb : Nat} {E : Nat → Addr} {gs : List Nat} {w w' : World} {B U B' U' : List UInt8} {r r' : Nat} {z z' : Bool} {lb lr lb' lr' : Int} (h : Rd K base E gs p bb w B U r z lb lr)
    (hc : Chg (Rd.S K p bb) w w') (c : RdC w' p bb K.rd r' ((r' + B'.length : Nat) : Int) (eofV E z') lb' lr') (row : ∃ L, RowB w' bb 4096 L ∧ (L.drop r').take B'.length = B') (le : r' + B'.length ≤ 4096) (u : K.at_ w' U')
    (end_ : z' = true → U' = [] ∧ r' + B'.length < 4096) : Rd K base E gs p bb w' B' U' r' z' lb' lr' := ⟨h.lay, c, row, le, u, end_, h.s.below (h.lay.below hc h.size)⟩
/-- What fill leaves. -/
def FillEnd (K : Und) (base : Nat) (E : Nat → Addr) (gs : List Nat) (p bb : Nat) (B U : List UInt8) (lb lr : Int) (w : World) (e : Ending) (w' : World) : Prop :=
  e = .returned (.tuple #[]) ∧ (∃ X U', U = X ++ U' ∧ Rd K base E gs p bb w' (B ++ X) U' 0 (X.isEmpty) lb lr ∧ (X = [] → U = [])) ∧ Chg (Rd.S K p bb) w w'
/-- What fill does. -/
def FillOK (K : Und) : Prop := ∀ (base : Nat) (E : Nat → Addr) (gs : List Nat) (p bb : Nat) (w : World) (B U : List UInt8) (r : Nat) (lb lr : Int),
  Rd K base E gs p bb w B U r false lb lr → B.length < 4096 → 0 ∈ gs → Calls Tryd.prog 67 #[.pointer (some ⟨p, 0, none⟩)] w (FillEnd K base E gs p bb B U lb lr w)

set_option maxRecDepth 200000 in
set_option maxHeartbeats 4000000 in
theorem fillB_zero (q sb : Nat) (base : Nat) (E : Nat → Addr) (gs : List Nat) (p bb : Nat) (w : World) (B U : List UInt8) (lb lr : Int) (hqs : sb ≠ q)
  (h : Rd (KB q sb) base E gs p bb w B U 0 false lb lr) (hB : B.length < 4096) (hg : 0 ∈ gs) :
  Calls Tryd.prog 67 #[.pointer (some ⟨p, 0, none⟩)] w (FillEnd (KB q sb) base E gs p bb B U lb lr w) := by
  have c0 := h.c.c0
  have c1 := h.c.c1
  have c2 := h.c.c2
  have c3 := h.c.c3
  simp only [Nat.zero_add] at c3
  have hBi : ¬ 4096 ≤ B.length := by omega
  have H := Lib.hid h
  clear h
  go_enter Tryd.func67, Tryd.ntmps67
  go_wp2
  go_quiet (fail)
  go_wp2
  go_loopw [2] (fun i w1 => i = .int .i64 100 ∧ Only w w1) (fun _ _ => 0)
  case atStart => exact ⟨rfl, (Only.refl w).drewN nq⟩
  case round =>
    obtain ⟨rfl, hO⟩ := hrel
    go_wp2
    have h := H.out.only hO
    clear H c0 c1 c2 c3
    have c0 := h.c.c0
    have c1 : wr.cell? ⟨p, 1, none⟩ = some (.iface 66 (.pointer (some ⟨q, 0, none⟩))) := h.c.c1
    have c3 := h.c.c3
    simp only [Nat.zero_add] at c3
    have hBn : ¬ 4096 = B.length := by omega
    have hB2 : (B.length : Int) ≤ 4096 := by omega
    have hB3 : B.length ≤ 4096 := by omega
    have H := Lib.hid (And.intro h hO)
    clear h hO
    by_cases hU : U = []
    · subst hU
      go_region_held3 (fun w' => w'.cell? ⟨p, 0, none⟩ = some (.slice (some ⟨bb, 0, none⟩) 4096 4096) ∧ w'.cell? ⟨p, 1, none⟩ = some (.iface 66 (.pointer (some ⟨q, 0, none⟩))) ∧ w'.cell? ⟨p, 3, none⟩ = some (.int .i64 B.length))
        (first | go_keep | (refine ⟨?_, ?_, ?_⟩ <;> (rw [World.cell?_of_block (hO3.at_ p)]; assumption)))
        (first | (go_at_call 114; refine (brRead_end (H.out.1.only (Only.refl _).drew).u (H.out.1.only (Only.refl _).drew).s.s hg _).mono ?_; rintro e w3 ⟨rfl, hO3⟩))
      obtain ⟨h, hO⟩ := H.out
      have hO4 : Only wr w3 := (Only.refl wr).drew.trans hO3
      have h3 := h.only hO4
      have hO5 := hO.trans hO4
      have d3 := h3.c.c3
      have f3 := h3.c.f 3
      have d4 := h3.c.c4
      have f4 := h3.c.f 4
      simp only [Nat.zero_add] at d3
      have HH := Lib.hid (And.intro h3 hO5)
      clear H h hO hO3 hO4 h3 hO5 c0 c1 c3
      go_wp2
      ((try simp only [Exit.inBlock, Exit.then]); refine bodyPost_ret (results_none rfl _ _ _) rfl ?_)
      obtain ⟨h3, hO3⟩ := HH.out
      have C3 : Chg (Rd.S (KB q sb) p bb) w3 ((w3.setCell ⟨p, 3, none⟩ (.int .i64 B.length)).setCell ⟨p, 4, none⟩ (eofV E true)) :=
        (((Chg.refl (Rd.S (KB q sb) p bb) w3).setCell (p := ⟨p, 3, none⟩) (fun _ => .inl rfl) _).setCell (p := ⟨p, 4, none⟩) (fun _ => .inl rfl) _)
      have hne : ∀ k, k ≠ p → ((w3.setCell ⟨p, 3, none⟩ (.int .i64 B.length)).setCell ⟨p, 4, none⟩ (eofV E true)).heap[k]? = w3.heap[k]? := fun k hk =>
        (Below.heap_setCell _ _ _ _ hk).trans (Below.heap_setCell _ _ _ _ hk)
      refine ⟨rfl, ⟨[], [], rfl, ?_, fun _ => rfl⟩, (hO3.chg _).trans C3⟩
      rw [List.append_nil]
      obtain ⟨L3, hL3, hB3'⟩ := h3.row
      refine h3.new C3 ?_ ⟨L3, hL3.same (hne bb h3.lay.nb.symm), hB3'⟩ h3.le ((KB q sb).same h3.u fun k hk => hne k (fun e => h3.lay.np (e ▸ hk))) (fun _ => ⟨rfl, by omega⟩)
      have := (h3.c.set3 (B.length : Int)).set4 (eofV E true)
      rw [show ((0 + B.length : Nat) : Int) = (B.length : Int) by omega]
      exact this
    · have hN1 : 0 < 4096 - B.length := by omega
      have hN2 : B.length + (4096 - B.length) ≤ 4096 := by omega
      have hUl : 0 < min U.length (4096 - B.length) := by have := List.length_pos_iff.2 hU; omega
      have hUi : ¬ ((min U.length (4096 - B.length) : Nat) : Int) ≤ 0 := by omega
      obtain ⟨L, hL, hLB⟩ := H.out.1.row
      have HL := Lib.hid (And.intro hL hLB)
      clear hL hLB
      go_region_held3 (fun w' => w'.cell? ⟨p, 0, none⟩ = some (.slice (some ⟨bb, 0, none⟩) 4096 4096) ∧ w'.cell? ⟨p, 1, none⟩ = some (.iface 66 (.pointer (some ⟨q, 0, none⟩))) ∧ w'.cell? ⟨p, 3, none⟩ = some (.int .i64 B.length))
        (first | go_keep | (refine ⟨?_, ?_, ?_⟩ <;> (rw [World.cell?_of_block (hC3.block p H.out.1.c.lt (fun e => by rcases e with e | e; exact H.out.1.lay.np (.inl e); exact H.out.1.lay.nb e))]; assumption)))
        (first | (go_at_call 114; refine (brRead_some (H.out.1.only (Only.refl _).drew).u hU (HL.out.1.same rfl) hN1 hN2 (fun e => H.out.1.lay.nbb (.inl e)) (fun e => H.out.1.lay.nbb (.inr e)) hqs).mono ?_; rintro e w3 ⟨rfl, hbr, hrow3, hC3⟩))
      obtain ⟨h, hO⟩ := H.out
      have hpn : ¬ (p = q ∨ p = bb) := fun e => by rcases e with e | e; exact h.lay.np (.inl e); exact h.lay.nb e
      have cp : RdC w3 p bb (KB q sb).rd (0 : Nat) ((0 + B.length : Nat) : Int) (eofV E false) lb lr := h.c.same (hC3.block p h.c.lt hpn)
      have d3 := cp.c3
      have f3 := cp.f 3
      simp only [Nat.zero_add] at d3
      have C : Chg (Rd.S (KB q sb) p bb) w w3 := (hO.chg _).trans (((Only.refl wr).drew.chg _).trans (hC3.sub (fun k _ hk => by rcases hk with rfl | rfl; exact .inr (.inr (.inl rfl)); exact .inr (.inl rfl))))
      have HH := Lib.hid (And.intro hbr (And.intro hrow3 (And.intro cp (And.intro C (And.intro hO hC3)))))
      clear hbr hrow3 cp hC3 C hO h c0 c1 c3 hpn
      go_wp2
      ((try simp only [Exit.inBlock, Exit.then]); refine bodyPost_ret (results_none rfl _ _ _) rfl ?_)
      obtain ⟨hbr, hrow3, cp, C, hO, hC3⟩ := HH.out
      obtain ⟨h, _⟩ := H.out
      obtain ⟨hL, hLB⟩ := HL.out
      have hXl : (U.take (4096 - B.length)).length = min U.length (4096 - B.length) := by rw [List.length_take, Nat.min_comm]
      have hXe : (U.take (4096 - B.length)).isEmpty = false := by
        rw [List.isEmpty_eq_false_iff]
        intro e
        rw [e] at hXl
        simp only [List.length_nil] at hXl
        omega
      have hne : ∀ k, k ≠ p → (w3.setCell ⟨p, 3, none⟩ (.int .i64 ((B.length : Int) + (min U.length (4096 - B.length) : Nat)))).heap[k]? = w3.heap[k]? := fun k hk => Below.heap_setCell _ _ _ _ hk
      have C4 : Chg (Rd.S (KB q sb) p bb) w (w3.setCell ⟨p, 3, none⟩ (.int .i64 ((B.length : Int) + (min U.length (4096 - B.length) : Nat)))) := C.setCell (p := ⟨p, 3, none⟩) (fun _ => .inl rfl) _
      refine ⟨rfl, ⟨U.take (4096 - B.length), U.drop (4096 - B.length), (List.take_append_drop _ _).symm, ?_, fun e => ?_⟩, C4⟩
      · rw [hXe]
        have hw := H.out.1
        have Cw : Chg (Rd.S (KB q sb) p bb) wr (w3.setCell ⟨p, 3, none⟩ (.int .i64 ((B.length : Int) + (min U.length (4096 - B.length) : Nat)))) :=
          ((((Only.refl wr).drew.chg _).trans (hC3.sub (fun k _ hk => by rcases hk with rfl | rfl; exact .inr (.inr (.inl rfl)); exact .inr (.inl rfl)))).setCell (p := ⟨p, 3, none⟩) (fun _ => .inl rfl) _)
        refine hw.new Cw ?_ ⟨_, hrow3.same (hne bb h.lay.nb.symm), ?_⟩ (by rw [List.length_append, hXl]; omega) ((KB q sb).same hbr fun k hk => hne k (fun e => h.lay.np (e ▸ hk))) (fun e => by cases e)
        · have := cp.set3 ((B.length : Int) + (min U.length (4096 - B.length) : Nat))
          rw [show ((0 + (B ++ U.take (4096 - B.length)).length : Nat) : Int) = (B.length : Int) + (min U.length (4096 - B.length) : Nat) by rw [List.length_append, hXl]; omega]
          exact this
        · have h0 : L.take B.length = B := by simpa using hLB
          unfold splice
          rw [h0, List.drop_zero, List.take_append_of_le_length (Nat.le_refl _), List.take_length]
      · exfalso
        rw [e] at hXe
        cases hXe
end Go.Proofs.YtilhgjcjofobeaaDoor
namespace Go.Proofs.YtilhgjcjofobeaaDoor
open Go.RowKit
set_option maxRecDepth 200000 in
set_option maxHeartbeats 8000000 in
/-- fill, over a bytes.Reader. -/
theorem fillB (q sb : Nat) (hqs : sb ≠ q) : FillOK (KB q sb) := by
  intro base E gs p bb w B U r lb lr h hB hg
  have c0 := h.c.c0
  have c1 := h.c.c1
  have c2 := h.c.c2
  have c3 := h.c.c3
  have hBi : ¬ 4096 ≤ B.length := by omega
  have H := Lib.hid h
  clear h
  go_enter Tryd.func67, Tryd.ntmps67
  go_upto_if 9 with (fail)
  go_cut [] (fun wx => Rd (KB q sb) base E gs p bb wx B U 0 false lb lr ∧ Chg (Rd.S (KB q sb) p bb) w wx)
  case first =>
    by_cases hr0 : r = 0
    · subst hr0
      go_wp2
      go_meet
      case rel => exact ⟨H.out, Chg.refl _ _⟩
    · have H0 := H
      have hrp : (0 : Int) < (r : Int) := by omega
      obtain ⟨n, hn⟩ : ∃ n : Nat, n = r + B.length := ⟨_, rfl⟩
      rw [← hn] at c3
      have hle := H.out.le
      have h1 : (r : Int) ≤ (n : Int) := by omega
      have h2 : (n : Int) ≤ 4096 := by omega
      have h3 : r ≤ n := by omega
      have h4 : n ≤ 4096 := by omega
      have hnr : n - r = B.length := by omega
      have hnr' : ((n : Int) - (r : Int)) = (B.length : Int) := by omega
      clear c1
      go_wp2
      have HN := Lib.hid (And.intro hn (And.intro hnr (And.intro hnr' hle)))
      clear hn hnr hnr' hle
      refine wp_still_drew 17 Tryd.mixedD (by kernel_rfl) (fun w2 hw2 => ?_)
      have hO2 : Only w w2 := by rw [hw2]; exact (Only.refl w).drew
      clear hw2
      have h := H.out.only hO2
      have d0 := h.c.c0
      have d2 := h.c.c2
      have d3 := h.c.c3
      rw [← HN.out.1] at d3
      have H2 := Lib.hid (And.intro h hO2)
      clear H c0 c2 c3 h hO2
      simp only [List.take_succ_cons, List.take_zero, List.drop_succ_cons, List.drop_zero]
      repeat still_step
      refine wpStill_nil ?_
      obtain ⟨h, hO2⟩ := H2.out
      obtain ⟨hn, hnr, hnr', hle⟩ := HN.out
      obtain ⟨L, hL, hLB⟩ := h.row
      have hrb : RB w2 (if 4096 = r then some ⟨bb, 0, none⟩ else some ⟨bb, r, none⟩) B := by
        split
        · have : B = [] := List.length_eq_zero_iff.1 (by omega)
          rw [this]; exact RB.nil _ _
        · exact hL.rb r B hLB (by omega)
      generalize (if 4096 = r then some (Addr.mk bb 0 none) else some (Addr.mk bb r none)) = A0 at hrb ⊢
      refine wpList_copy_B rfl (.tmp 13) (.tmp 26) rfl bb 0 4096 4096 rfl A0 (n - r) (4096 - r) rfl B hnr hrb hL (by omega) B.length (by omega) ?_
      rw [List.take_length]
      have R3 : RowB (w2.setCells bb 0 (bts B)) bb 4096 (splice L 0 B) := hL.setCells (by omega)
      have C3 : Chg (Rd.S (KB q sb) p bb) w (w2.setCells bb 0 (bts B)) := (hO2.chg _).setCells (g := bb) (fun _ => .inr (.inl rfl)) _ _
      have N3 : ∀ k, k ≠ bb → (w2.setCells bb 0 (bts B)).heap[k]? = w2.heap[k]? := fun k hk => heap_setCells bb _ _ _ _ hk
      have P3 : RdC (w2.setCells bb 0 (bts B)) p bb (KB q sb).rd (r : Int) (n : Int) (eofV E false) lb lr := by
        have := h.c.same (N3 p h.lay.nb)
        rw [← hn] at this
        exact this
      have U3 : (KB q sb).at_ (w2.setCells bb 0 (bts B)) U := (KB q sb).same h.u fun k hk => N3 k (fun e => h.lay.nbb (e ▸ hk))
      generalize w2.setCells bb 0 (bts B) = w3 at R3 C3 P3 U3 ⊢
      have H3 := Lib.hid (And.intro R3 (And.intro C3 (And.intro P3 U3)))
      clear d0 d2 d3 H2 h hO2 hL hLB hrb R3 C3 N3 P3 U3 hn hnr hnr' hle
      go_wp2
      refine wp_still_drew 11 Tryd.mixedD (by kernel_rfl) (fun w4 hw4 => ?_)
      have hO4 : Only w3 w4 := by rw [hw4]; exact (Only.refl w3).drew
      clear hw4
      have P4 := H3.out.2.2.1.same (hO4.at_ p)
      have d2 := P4.c2
      have d3 := P4.c3
      have H4 := Lib.hid (And.intro P4 hO4)
      clear P4 hO4
      simp only [List.take_succ_cons, List.take_zero, List.drop_succ_cons, List.drop_zero]
      repeat still_step
      refine wpStill_nil ?_
      have f2 := H4.out.1.f 2
      have f3 := H4.out.1.f 3
      go_wp2
      all_goals
        go_meet
        case rel =>
          obtain ⟨R3, C3, P3, U3⟩ := H3.out
          obtain ⟨P4, hO4⟩ := H4.out
          obtain ⟨hn, hnr, hnr', hle⟩ := HN.out
          have N : ∀ k, k ≠ p → ((w4.setCell ⟨p, 3, none⟩ (.int .i64 ((n : Int) - (r : Int)))).setCell ⟨p, 2, none⟩ (.int .i64 0)).heap[k]? = w3.heap[k]? := fun k hk =>
            ((Below.heap_setCell _ _ _ _ hk).trans (Below.heap_setCell _ _ _ _ hk)).trans (hO4.at_ k)
          have C : Chg (Rd.S (KB q sb) p bb) w ((w4.setCell ⟨p, 3, none⟩ (.int .i64 ((n : Int) - (r : Int)))).setCell ⟨p, 2, none⟩ (.int .i64 0)) :=
            ((C3.trans (hO4.chg _)).setCell (p := ⟨p, 3, none⟩) (fun _ => .inl rfl) _).setCell (p := ⟨p, 2, none⟩) (fun _ => .inl rfl) _
          refine ⟨H0.out.new C ?_ ⟨_, R3.same (N bb H0.out.lay.nb.symm), ?_⟩ (by omega) ((KB q sb).same U3 fun k hk => N k (fun e => H0.out.lay.np (e ▸ hk))) (fun e => by cases e), C⟩
          · have := (P4.set3 ((n : Int) - (r : Int))).set2 0
            rw [show ((0 + B.length : Nat) : Int) = (n : Int) - (r : Int) by omega]
            exact this
          · unfold splice
            simp
  case rest =>
    obtain ⟨h, hC⟩ := hcut
    clear c0 c1 c2 c3 H
    have c0 := h.c.c0
    have c2 := h.c.c2
    have c3 := h.c.c3
    simp only [Nat.zero_add] at c3
    have H := Lib.hid h
    have HC := Lib.hid hC
    clear h hC
    go_wp2
    go_quiet (fail)
    go_wp2
    go_loopw [2] (fun i w1 => i = .int .i64 100 ∧ Only wc w1) (fun _ _ => 0)
    case atStart => exact ⟨rfl, (Only.refl wc).drewN nq⟩
    case round =>
      obtain ⟨rfl, hO⟩ := hrel
      go_wp2
      have h := H.out.only hO
      clear H c0 c2 c3
      have c0 := h.c.c0
      have c1 : wr.cell? ⟨p, 1, none⟩ = some (.iface 66 (.pointer (some ⟨q, 0, none⟩))) := h.c.c1
      have c3 := h.c.c3
      simp only [Nat.zero_add] at c3
      have hBn : ¬ 4096 = B.length := by omega
      have hB2 : (B.length : Int) ≤ 4096 := by omega
      have hB3 : B.length ≤ 4096 := by omega
      have H := Lib.hid (And.intro h hO)
      clear h hO
      by_cases hU : U = []
      · subst hU
        go_region_held3 (fun w' => w'.cell? ⟨p, 0, none⟩ = some (.slice (some ⟨bb, 0, none⟩) 4096 4096) ∧ w'.cell? ⟨p, 1, none⟩ = some (.iface 66 (.pointer (some ⟨q, 0, none⟩))) ∧ w'.cell? ⟨p, 3, none⟩ = some (.int .i64 B.length))
          (first | go_keep | (refine ⟨?_, ?_, ?_⟩ <;> (rw [World.cell?_of_block (hO3.at_ p)]; assumption)))
          (first | (go_at_call 114; refine (brRead_end (H.out.1.only (Only.refl _).drew).u (H.out.1.only (Only.refl _).drew).s.s hg _).mono ?_; rintro e w3 ⟨rfl, hO3⟩))
        obtain ⟨h, hO⟩ := H.out
        have hO4 : Only wr w3 := (Only.refl wr).drew.trans hO3
        have h3 := h.only hO4
        have hO5 := hO.trans hO4
        have d3 := h3.c.c3
        have f3 := h3.c.f 3
        have d4 := h3.c.c4
        have f4 := h3.c.f 4
        simp only [Nat.zero_add] at d3
        have HH := Lib.hid (And.intro h3 hO5)
        clear H h hO hO3 hO4 h3 hO5 c0 c1 c3
        go_wp2
        ((try simp only [Exit.inBlock, Exit.then]); refine bodyPost_ret (results_none rfl _ _ _) rfl ?_)
        obtain ⟨h3, hO3⟩ := HH.out
        have C3 : Chg (Rd.S (KB q sb) p bb) w3 ((w3.setCell ⟨p, 3, none⟩ (.int .i64 B.length)).setCell ⟨p, 4, none⟩ (eofV E true)) :=
          (((Chg.refl (Rd.S (KB q sb) p bb) w3).setCell (p := ⟨p, 3, none⟩) (fun _ => .inl rfl) _).setCell (p := ⟨p, 4, none⟩) (fun _ => .inl rfl) _)
        have hne : ∀ k, k ≠ p → ((w3.setCell ⟨p, 3, none⟩ (.int .i64 B.length)).setCell ⟨p, 4, none⟩ (eofV E true)).heap[k]? = w3.heap[k]? := fun k hk =>
          (Below.heap_setCell _ _ _ _ hk).trans (Below.heap_setCell _ _ _ _ hk)
        refine ⟨rfl, ⟨[], [], rfl, ?_, fun _ => rfl⟩, HC.out.trans ((hO3.chg _).trans C3)⟩
        rw [List.append_nil]
        obtain ⟨L3, hL3, hB3'⟩ := h3.row
        refine h3.new C3 ?_ ⟨L3, hL3.same (hne bb h3.lay.nb.symm), hB3'⟩ h3.le ((KB q sb).same h3.u fun k hk => hne k (fun e => h3.lay.np (e ▸ hk))) (fun _ => ⟨rfl, by omega⟩)
        have := (h3.c.set3 (B.length : Int)).set4 (eofV E true)
        rw [show ((0 + B.length : Nat) : Int) = (B.length : Int) by omega]
        exact this
      · have hN1 : 0 < 4096 - B.length := by omega
        have hN2 : B.length + (4096 - B.length) ≤ 4096 := by omega
        have hUl : 0 < min U.length (4096 - B.length) := by have := List.length_pos_iff.2 hU; omega
        have hUi : ¬ ((min U.length (4096 - B.length) : Nat) : Int) ≤ 0 := by omega
        obtain ⟨L, hL, hLB⟩ := H.out.1.row
        have HL := Lib.hid (And.intro hL hLB)
        clear hL hLB
        go_region_held3 (fun w' => w'.cell? ⟨p, 0, none⟩ = some (.slice (some ⟨bb, 0, none⟩) 4096 4096) ∧ w'.cell? ⟨p, 1, none⟩ = some (.iface 66 (.pointer (some ⟨q, 0, none⟩))) ∧ w'.cell? ⟨p, 3, none⟩ = some (.int .i64 B.length))
          (first | go_keep | (refine ⟨?_, ?_, ?_⟩ <;> (rw [World.cell?_of_block (hC3.block p H.out.1.c.lt (fun e => by rcases e with e | e; exact H.out.1.lay.np (.inl e); exact H.out.1.lay.nb e))]; assumption)))
          (first | (go_at_call 114; refine (brRead_some (H.out.1.only (Only.refl _).drew).u hU (HL.out.1.same rfl) hN1 hN2 (fun e => H.out.1.lay.nbb (.inl e)) (fun e => H.out.1.lay.nbb (.inr e)) hqs).mono ?_; rintro e w3 ⟨rfl, hbr, hrow3, hC3⟩))
        obtain ⟨h, hO⟩ := H.out
        have hpn : ¬ (p = q ∨ p = bb) := fun e => by rcases e with e | e; exact h.lay.np (.inl e); exact h.lay.nb e
        have cp : RdC w3 p bb (KB q sb).rd (0 : Nat) ((0 + B.length : Nat) : Int) (eofV E false) lb lr := h.c.same (hC3.block p h.c.lt hpn)
        have d3 := cp.c3
        have f3 := cp.f 3
        simp only [Nat.zero_add] at d3
        have C : Chg (Rd.S (KB q sb) p bb) wc w3 := (hO.chg _).trans (((Only.refl wr).drew.chg _).trans (hC3.sub (fun k _ hk => by rcases hk with rfl | rfl; exact .inr (.inr (.inl rfl)); exact .inr (.inl rfl))))
        have HH := Lib.hid (And.intro hbr (And.intro hrow3 (And.intro cp (And.intro C (And.intro hO hC3)))))
        clear hbr hrow3 cp hC3 C hO h c0 c1 c3 hpn
        go_wp2
        ((try simp only [Exit.inBlock, Exit.then]); refine bodyPost_ret (results_none rfl _ _ _) rfl ?_)
        obtain ⟨hbr, hrow3, cp, C, hO, hC3⟩ := HH.out
        obtain ⟨h, _⟩ := H.out
        obtain ⟨hL, hLB⟩ := HL.out
        have hXl : (U.take (4096 - B.length)).length = min U.length (4096 - B.length) := by rw [List.length_take, Nat.min_comm]
        have hXe : (U.take (4096 - B.length)).isEmpty = false := by
          rw [List.isEmpty_eq_false_iff]
          intro e
          rw [e] at hXl
          simp only [List.length_nil] at hXl
          omega
        have hne : ∀ k, k ≠ p → (w3.setCell ⟨p, 3, none⟩ (.int .i64 ((B.length : Int) + (min U.length (4096 - B.length) : Nat)))).heap[k]? = w3.heap[k]? := fun k hk => Below.heap_setCell _ _ _ _ hk
        have C4 : Chg (Rd.S (KB q sb) p bb) wc (w3.setCell ⟨p, 3, none⟩ (.int .i64 ((B.length : Int) + (min U.length (4096 - B.length) : Nat)))) := C.setCell (p := ⟨p, 3, none⟩) (fun _ => .inl rfl) _
        refine ⟨rfl, ⟨U.take (4096 - B.length), U.drop (4096 - B.length), (List.take_append_drop _ _).symm, ?_, fun e => ?_⟩, HC.out.trans C4⟩
        · rw [hXe]
          have hw := H.out.1
          have Cw : Chg (Rd.S (KB q sb) p bb) wr (w3.setCell ⟨p, 3, none⟩ (.int .i64 ((B.length : Int) + (min U.length (4096 - B.length) : Nat)))) :=
            ((((Only.refl wr).drew.chg _).trans (hC3.sub (fun k _ hk => by rcases hk with rfl | rfl; exact .inr (.inr (.inl rfl)); exact .inr (.inl rfl)))).setCell (p := ⟨p, 3, none⟩) (fun _ => .inl rfl) _)
          refine hw.new Cw ?_ ⟨_, hrow3.same (hne bb h.lay.nb.symm), ?_⟩ (by rw [List.length_append, hXl]; omega) ((KB q sb).same hbr fun k hk => hne k (fun e => h.lay.np (e ▸ hk))) (fun e => by cases e)
          · have := cp.set3 ((B.length : Int) + (min U.length (4096 - B.length) : Nat))
            rw [show ((0 + (B ++ U.take (4096 - B.length)).length : Nat) : Int) = (B.length : Int) + (min U.length (4096 - B.length) : Nat) by rw [List.length_append, hXl]; omega]
            exact this
          · have h0 : L.take B.length = B := by simpa using hLB
            unfold splice
            rw [h0, List.drop_zero, List.take_append_of_le_length (Nat.le_refl _), List.take_length]
        · exfalso
          rw [e] at hXe
          cases hXe
end Go.Proofs.YtilhgjcjofobeaaDoor
namespace Go.Proofs.YtilhgjcjofobeaaDoor
open Go.RowKit

section
variable {K : Und} {base p bb : Nat} {E : Nat → Addr} {gs : List Nat} {w : World} {B U : List UInt8} {r : Nat} {z : Bool} {lb lr : Int}
theorem buffered_any (h : Rd K base E gs p bb w B U r z lb lr) :
    Calls Tryd.prog 63 #[.pointer (some ⟨p, 0, none⟩)] w fun e w' => e = .returned (.int .i64 B.length) ∧ ∃ m, w' = w.drewN m := by
  obtain ⟨n, hn⟩ : ∃ n : Nat, n = r + B.length := ⟨_, rfl⟩
  have c2 := h.c.c2
  have c3 := h.c.c3
  have hle := h.le
  rw [← hn] at c3
  have hb : ((n : Int) - (r : Int)) = (B.length : Int) := by omega
  have h1 : (r : Int) ≤ (n : Int) := by omega
  have h2 : (n : Int) ≤ 4096 := by omega
  have hN := Lib.hid (And.intro hn hb)
  clear hn hb hle h
  go_enter Tryd.func63, Tryd.ntmps63
  go_wp2
  go_quiet (fail)
  go_wp2
  go_ret
  refine ⟨?_, _, rfl⟩
  rw [← hN.out.2]
  rfl
end
theorem bytesOf_nums (l : List UInt8) : Lib.bytesOf (l.map fun b => (b.toNat : Int)) = l := by
  unfold Lib.bytesOf
  rw [List.map_map]
  conv => rhs; rw [← List.map_id l]
  refine List.map_congr_left fun b _ => ?_
  show UInt8.ofNat ((b.toNat : Int)).toNat = b
  rw [Int.toNat_natCast]
  exact UInt8.ofNat_toNat
/-- bytes.IndexByte of what a slice reads as. -/
theorem indexByte_any {w : World} {g o : Nat} {l : List UInt8} {c : Nat} (hr : RB w (some ⟨g, o, none⟩) l) (b : UInt8) :
    Calls Tryd.prog 74 #[.slice (some ⟨g, o, none⟩) l.length c, .int .u8 b.toNat] w fun e w' => e = .returned (.int .i64 (Lib.indexByte l b)) ∧ w' = w := by
  have := Tryd.bytes_IndexByte g o l.length c (l.map fun b => (b.toNat : Int)) b.toNat w (by simp) (fun i hi => by
    have hne : l ≠ [] := by rintro rfl; simp at hi
    obtain ⟨g', o', he, hx⟩ := hr hne
    injection he with he
    injection he with h1 h2
    subst h1; subst h2
    rw [hx i l[i] (List.getElem?_eq_getElem hi)]
    simp [List.getD_eq_getElem?_getD, List.getElem?_eq_getElem hi])
  rw [bytesOf_nums] at this
  rw [show (b.toNat : Int).toNat.toUInt8 = b by rw [Int.toNat_natCast]; exact UInt8.ofNat_toNat] at this
  exact this
theorem indexByte_none {l : List UInt8} {b : UInt8} : Lib.indexByte l b = -1 ↔ b ∉ l := by
  induction l with
  | nil => simp [Lib.indexByte]
  | cons x t ih =>
    have := Lib.indexByte_ge t b
    unfold Lib.indexByte
    by_cases hx : x = b
    · subst hx; simp
    · rw [if_neg (by simpa using hx)]
      by_cases ht : Lib.indexByte t b = -1
      · rw [if_pos (by simpa using ht)]
        simp [ih.1 ht, Ne.symm hx]
      · rw [if_neg (by simpa using ht)]
        constructor
        · intro h; omega
        · intro h
          exfalso
          exact ht (ih.2 (fun hm => h (List.mem_cons_of_mem _ hm)))
theorem indexByte_app {a t : List UInt8} {b : UInt8} (h : b ∉ a) : Lib.indexByte (a ++ b :: t) b = a.length := by
  induction a with
  | nil => simp [Lib.indexByte]
  | cons x r ih =>
    rw [List.mem_cons, not_or] at h
    rw [List.cons_append]
    unfold Lib.indexByte
    rw [if_neg (by simpa using Ne.symm h.1), ih h.2, if_neg (by simp)]
    simp
end Go.Proofs.YtilhgjcjofobeaaDoor
