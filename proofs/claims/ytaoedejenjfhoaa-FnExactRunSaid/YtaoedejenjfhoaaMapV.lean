/- Maps of slices of strings, key by key: which value lies at each key. -/
import Derived.Test.YtaoedejenjfhoaaMem
import Derived.Maps.OwnSet
import Derived.StringKeys
namespace Go.Proofs.Ytaoedejenjfhoaa
open Go.RowKit Go.Maps Go.ChangeMaps Go.MapKept

/-- An element reads as itself. -/
def rawR (v : Value) : Option (DataW Value × List MemPlace) := some (.held v, [])
/-- Block b is a map of at most n entries that holds val k at each key k. -/
def MapIs (w : World) (b n : Nat) (val : List UInt8 → Value) : Prop :=
  ∃ D : DataW Value, w.ownsMap Try.prog 9 rawR b n D ∧ ∀ k, D.atKey (.string k) (.held (.slice none 0 0)) = .held (val k)
def updF {α : Type} (f : List UInt8 → α) (k : List UInt8) (v : α) : List UInt8 → α := fun k' => if k' = k then v else f k'
theorem updF_same {α : Type} (f : List UInt8 → α) (k : List UInt8) (v : α) : updF f k v k = v := if_pos rfl
theorem updF_other {α : Type} (f : List UInt8 → α) {k k' : List UInt8} (v : α) (h : k' ≠ k) : updF f k v k' = f k' := if_neg h
theorem Try.mapLaw : Keyed Try.prog 9 := string_keyed Try.underlying9
theorem Try.zeroSs (w : World) : (zeroValue 31).run Try.prog w = .ok (.slice none 0 0) w := by kernel_rfl
theorem keyMk {k : List UInt8} (h : k.length ≤ 9223372036854775807) : keyOf Try.prog 9 (.string ⟨k.toArray⟩) = some (.string k) := by
  have := WideMaps.keyOf_string_mk (P := Try.prog) Try.underlying9 (s := ⟨k.toArray⟩) (by rw [mk_size]; unfold maxLen; omega)
  simpa using this
theorem MapIs.made (w : World) : MapIs (w.alloc (.map #[] 0)) w.heap.size 0 (fun _ => .slice none 0 0) :=
  ⟨_, World.ownsMap_made w _ _ _, fun _ => rfl⟩
theorem MapIs.lt {w : World} {b n : Nat} {val : List UInt8 → Value} (h : MapIs w b n val) : b < w.heap.size := by
  obtain ⟨D, h, _⟩ := h
  exact h.lt
theorem MapIs.of {w w' : World} {b n : Nat} {val : List UInt8 → Value} (h : MapIs w b n val) (hb : w'.heap[b]? = w.heap[b]?) : MapIs w' b n val := by
  obtain ⟨D, ⟨es, clock, h1, h2⟩, h3⟩ := h
  exact ⟨D, ⟨es, clock, hb.trans h1, h2⟩, h3⟩
set_option maxRecDepth 200000 in
theorem MapIs.look {w : World} {b n : Nat} {val : List UInt8 → Value} (h : MapIs w b n val) {k : List UInt8} (hk : k.length ≤ 9223372036854775807) :
    (Instr.lookup 39 (.map (some b)) (.string ⟨k.toArray⟩) false).run Try.prog w = .ok (val k) w := by
  obtain ⟨D, h, hv⟩ := h
  obtain ⟨v, ps, h1, h2⟩ := h.lookup Try.mapLaw Try.underlying39 (Try.zeroSs w) (zd := .held (.slice none 0 0)) (zp := []) rfl (keyMk hk)
  rw [hv k] at h2
  have h3 : v = val k := by
    have h4 : (some (DataW.held v, ([] : List MemPlace))) = some (.held (val k), ps) := h2
    injection h4 with h4
    injection h4 with h4 _
    injection h4
  rw [h1, h3]
set_option maxRecDepth 200000 in
theorem wpList_upd {ops : Array Oper} {Q : Exit → Act → World → Prop} {a : Act} {w : World} {rest : List Oper} {o : Oper} (hg : o.guard = none) (m x v : Operand) (hop : o.op = Op.mapUpdate 39 m x v)
    (b n : Nat) (val : List UInt8 → Value) (hm : a.eval m = .map (some b)) (h : MapIs w b n val) (hn : n < 9223372036854775807) (k : List UInt8) (hx : a.eval x = .string ⟨k.toArray⟩) (hk : k.length ≤ 9223372036854775807) (u : Value) (hv : a.eval v = u)
    (hK : ∀ w', MapIs w' b (n + 1) (updF val k u) → w.grownBy w' (some b) → wpList Try.prog ops Q rest (a.put o.dst undef) w') : wpList Try.prog ops Q (o :: rest) a w := by
  obtain ⟨D, h, hv2⟩ := h
  refine wpList_mapUpdate_own w hg m x v 39 hop 9 31 Try.mapLaw Try.underlying39 rawR b n D hm h (by unfold maxLen; omega) _ u (.string k) hx hv (keyMk hk) (.held u) [] rfl (fun w' h1 h2 => hK w' ⟨_, h1, fun k' => ?_⟩ h2)
  by_cases e : k' = k
  · subst e
    rw [updF_same]
    exact atKey_put_same h.isMap (by trivial) _ _
  · rw [updF_other _ _ e, ← hv2 k']
    exact atKey_put_other (fun e2 => e (by injection e2)) _ _
set_option maxRecDepth 200000 in
theorem wpList_del {ops : Array Oper} {Q : Exit → Act → World → Prop} {a : Act} {w : World} {rest : List Oper} {o : Oper} (hg : o.guard = none) (m x : Operand) (hop : o.op = Op.call { callee := Callee.builtin Builtin.delete, args := #[m, x], argTypes := #[39, 9] })
    (b n : Nat) (val : List UInt8 → Value) (hm : a.eval m = .map (some b)) (h : MapIs w b n val) (k : List UInt8) (hx : a.eval x = .string ⟨k.toArray⟩) (hk : k.length ≤ 9223372036854775807)
    (hK : ∀ w', MapIs w' b n (updF val k (.slice none 0 0)) → w.grownBy w' (some b) → wpList Try.prog ops Q rest (a.put o.dst (.tuple #[])) w') : wpList Try.prog ops Q (o :: rest) a w := by
  obtain ⟨D, h, hv2⟩ := h
  refine wpList_delete_own w hg m x 39 9 hop 31 Try.mapLaw Try.underlying39 rawR b n D hm h _ (.string k) hx (keyMk hk) (fun w' h1 h2 => hK w' ⟨_, h1, fun k' => ?_⟩ h2.grown)
  by_cases e : k' = k
  · subst e
    rw [updF_same]
    exact atKey_del_same _
  · rw [updF_other _ _ e, ← hv2 k']
    exact atKey_del_other (fun e2 => e (by injection e2)) _
end Go.Proofs.Ytaoedejenjfhoaa
