/- Blocks that are written out, and rows of cells laid into them (Rd's first laws, for a seat without readers). -/
import Derived.Test.YtaoedejenjfhoaaFindV
import Derived.Test.YtaoedejenjfhoaaSlF
import Derived.Deep.RegionLaw
import Derived.Lib.Walk
namespace Go.Proofs.Ytaoedejenjfhoaa
open Go.RowKit Go.Maps

/-- A block that is written out: its cells, none of them frozen. -/
def Blk (w : World) (g : Nat) (cs : Array Value) (t : TypeId) : Prop := w.heap[g]? = some (.cells cs t (0, 0))
theorem Blk.cell {w : World} {g : Nat} {cs : Array Value} {t : TypeId} (h : Blk w g cs t) (i : Nat) : w.cell? ⟨g, i, none⟩ = cs[i]? := by
  unfold Blk at h
  unfold World.cell?
  simp [h]
theorem Blk.free {w : World} {g : Nat} {cs : Array Value} {t : TypeId} (h : Blk w g cs t) (i : Nat) : w.frozen? ⟨g, i, none⟩ = false := by
  unfold Blk at h
  unfold World.frozen?
  simp [h]
theorem Blk.lt {w : World} {g : Nat} {cs : Array Value} {t : TypeId} (h : Blk w g cs t) : g < w.heap.size := (Array.getElem?_eq_some_iff.1 h).1
theorem Blk.set {w : World} {g : Nat} {cs : Array Value} {t : TypeId} (h : Blk w g cs t) (i : Nat) (v : Value) : Blk (w.setCell ⟨g, i, none⟩ v) g (cs.setIfInBounds i v) t := by
  unfold Blk at h ⊢
  simp [World.setCell, Array.getElem?_modify, h]
theorem Blk.same {w w' : World} {g : Nat} {cs : Array Value} {t : TypeId} (h : Blk w g cs t) (hb : w'.heap[g]? = w.heap[g]?) : Blk w' g cs t := by
  unfold Blk at h ⊢; rw [hb, h]
theorem Blk.setOther {w : World} {g k : Nat} {cs : Array Value} {t : TypeId} (h : Blk w g cs t) (i : Nat) (v : Value) (hk : g ≠ k) : Blk (w.setCell ⟨k, i, none⟩ v) g cs t :=
  h.same (Below.heap_setCell _ _ _ _ hk)

theorem heap_setCells (g : Nat) : ∀ (vs : List Value) (o : Nat) (w : World) (k : Nat), k ≠ g → (w.setCells g o vs).heap[k]? = w.heap[k]?
  | [], _, _, _, _ => rfl
  | v :: r, o, w, k, hk => by rw [World.setCells, heap_setCells g r (o + 1) _ k hk, Below.heap_setCell _ _ _ _ hk]
theorem size_setCells (g : Nat) : ∀ (vs : List Value) (o : Nat) (w : World), (w.setCells g o vs).heap.size = w.heap.size
  | [], _, _ => rfl
  | v :: r, o, w => by rw [World.setCells, size_setCells g r (o + 1), World.size_setCell]
/-- The cells vs laid from place o on. -/
def laySet (cs : Array Value) (o : Nat) : List Value → Array Value
  | [] => cs
  | v :: r => laySet (cs.setIfInBounds o v) (o + 1) r
theorem laySet_size (vs : List Value) : ∀ (cs : Array Value) (o : Nat), (laySet cs o vs).size = cs.size := by
  induction vs with
  | nil => intro cs o; rfl
  | cons v r ih => intro cs o; rw [laySet, ih]; simp
theorem laySet_get (vs : List Value) : ∀ (cs : Array Value) (o i : Nat), o + vs.length ≤ cs.size → (laySet cs o vs)[i]? = if i < o then cs[i]? else if i < o + vs.length then vs[i - o]? else cs[i]? := by
  induction vs with
  | nil => intro cs o i h; simp [laySet]; omega
  | cons v r ih =>
    intro cs o i h
    simp only [List.length_cons] at h
    rw [laySet, ih _ _ _ (by simp; omega), Array.getElem?_setIfInBounds]
    simp only [List.length_cons]
    by_cases h1 : i < o
    · rw [if_pos (by omega), if_neg (by omega), if_pos h1]
    · by_cases h2 : i = o
      · subst h2; simp; omega
      · rw [if_neg (by omega), if_neg h1]
        by_cases h3 : i < o + 1 + r.length
        · rw [if_pos h3, if_pos (by omega), show i - o = (i - (o + 1)) + 1 by omega]; rfl
        · rw [if_neg h3, if_neg (by omega), if_neg (by omega)]
theorem laySet_take {vs : List Value} {cs : Array Value} {o n : Nat} (h : o + vs.length ≤ cs.size) (hn : n = o + vs.length) : (laySet cs o vs).toList.take n = cs.toList.take o ++ vs := by
  subst hn
  apply List.ext_getElem?
  intro i
  rw [List.getElem?_take]
  by_cases h1 : i < o + vs.length
  · rw [if_pos h1, Array.getElem?_toList, laySet_get vs cs o i h]
    by_cases h2 : i < o
    · rw [if_pos h2, List.getElem?_append_left (by simp; omega), List.getElem?_take, if_pos h2]; simp
    · rw [if_neg h2, if_pos h1, List.getElem?_append_right (by simp; omega)]
      congr 1
      simp; omega
  · rw [if_neg h1, List.getElem?_eq_none (by simp; omega)]
theorem Blk.setCells {g : Nat} {t : TypeId} (vs : List Value) : ∀ {w : World} {cs : Array Value} (o : Nat), Blk w g cs t → Blk (w.setCells g o vs) g (laySet cs o vs) t := by
  induction vs with
  | nil => intro w cs o h; exact h
  | cons v r ih => intro w cs o h; exact ih (o + 1) (h.set o v)
end Go.Proofs.Ytaoedejenjfhoaa
