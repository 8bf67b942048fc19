/- slices.Insert of one key without values into an owned list of keys. -/
import Derived.Test.YtilhgjcjofobeaaDoorZCb
import Derived.Deep.RegionLaw
import Derived.Lib.Overlaps
import Derived.Lib.AppendZerosOnto
import Derived.Laws.NewBlocks
import Derived.Laws.IdiomCopy
namespace Go.Proofs.YtilhgjcjofobeaaDoor
open Go.RowKit Go.Maps

/-- The cells vs laid from place o on. -/
def laySet (cs : Array Value) (o : Nat) : List Value → Array Value
  | [] => cs
  | v :: r => laySet (cs.setIfInBounds o v) (o + 1) r
theorem laySet_size (vs : List Value) : ∀ (cs : Array Value) (o : Nat), (laySet cs o vs).size = cs.size := by
  induction vs with
  | nil => intro cs o; rfl
  | cons v r ih => intro cs o; rw [laySet, ih]; simp
theorem laySet_get (vs : List Value) : ∀ (cs : Array Value) (o i : Nat), o + vs.length ≤ cs.size → (laySet cs o vs)[i]? = if i < o then cs[i]? else if i < o + vs.length then vs[i - o]? else cs[i]? := by
  induction vs with
  | nil => intro cs o i h; simp [laySet]; omega
  | cons v r ih =>
    intro cs o i h
    simp only [List.length_cons] at h
    rw [laySet, ih _ _ _ (by simp; omega), Array.getElem?_setIfInBounds]
    simp only [List.length_cons]
    by_cases h1 : i < o
    · rw [if_pos (by omega), if_neg (by omega), if_pos h1]
    · by_cases h2 : i = o
      · subst h2; simp; omega
      · rw [if_neg (by omega), if_neg h1]
        by_cases h3 : i < o + 1 + r.length
        · rw [if_pos h3, if_pos (by omega), show i - o = (i - (o + 1)) + 1 by omega]; rfl
        · rw [if_neg h3, if_neg (by omega), if_neg (by omega)]
theorem laySet_take {vs : List Value} {cs : Array Value} {o n : Nat} (h : o + vs.length ≤ cs.size) (hn : n = o + vs.length) : (laySet cs o vs).toList.take n = cs.toList.take o ++ vs := by
  subst hn
  apply List.ext_getElem?
  intro i
  rw [List.getElem?_take]
  by_cases h1 : i < o + vs.length
  · rw [if_pos h1, Array.getElem?_toList, laySet_get vs cs o i h]
    by_cases h2 : i < o
    · rw [if_pos h2, List.getElem?_append_left (by simp; omega), List.getElem?_take, if_pos h2]; simp
    · rw [if_neg h2, if_pos h1, List.getElem?_append_right (by simp; omega)]
      congr 1
      simp; omega
  · rw [if_neg h1, List.getElem?_eq_none (by simp; omega)]
theorem Blk.setCells {g : Nat} {t : TypeId} (vs : List Value) : ∀ {w : World} {cs : Array Value} (o : Nat), Blk w g cs t → Blk (w.setCells g o vs) g (laySet cs o vs) t := by
  induction vs with
  | nil => intro w cs o h; exact h
  | cons v r ih => intro w cs o h; exact ih (o + 1) (h.set o v)
theorem Blk.shape {w : World} {g : Nat} {cs : Array Value} {t : TypeId} (h : Blk w g cs t) : w.shape? g = some (t, cs.size) := by
  unfold Blk at h
  unfold World.shape?
  simp [h]
/-- 'copy' at elements of two cells, with its run. -/
theorem run_copy_two {P : Program} (w : World) (dT sT ty elem : TypeId) (b o dLen dCap : Nat) (a : Addr) (sLen sCap k : Nat) (cs : List Value)
    (hu : P.underlying dT = some (.slice elem)) (hs : (P.info? elem).map (·.size) = some 2) (hk : k = Nat.min sLen dLen) (hn : cs.length = k * 2)
    (hsrc : ∀ j v, cs[j]? = some v → w.cell? (a.add j) = some v) (hc : ∀ j, j < cs.length → (w.cell? ⟨b, o + j, none⟩).isSome = true) (hf : ∀ j, j < cs.length → w.frozen? ⟨b, o + j, none⟩ = false) (h1 : ∀ v ∈ cs, v.oneCell' = true) :
    (Builtin.copy_ #[dT, sT] ty #[.slice (some ⟨b, o, none⟩) dLen dCap, .slice (some a) sLen sCap]).run P w = .ok (goInt k) (w.setCells b o cs) := by
  have hl := run_loadCells_list (P := P) w a cs hsrc
  have hst := run_storeCells_cells (P := P) b o cs 0 w (by simpa using hc) (by simpa using hf) h1
  rw [hn] at hl
  subst hk
  cases hq : P.info? elem with
  | none => simp [hq] at hs
  | some i =>
    have hi : i.size = 2 := by simpa [hq] using hs
    simp [Builtin.copy_, run_underlying hu, Builtin.lenOf, Builtin.firstCells, sizeOf, typeInfo, hq, hi, hl, hst]
theorem wpList_copy_r {P : Program} {w : World} {ops : Array Oper} {rest : List Oper} {o : Oper} {a : Act} {Q : Exit → Act → World → Prop} (hgd : o.guard = none) (d s : Operand) (t t' : TypeId)
    (ho : o.op = .call { callee := .builtin .copy, args := #[d, s], argTypes := #[t, t'] }) (v u : Value) (hd : a.eval d = v) (hs : a.eval s = u) {v' : Value} {w' : World}
    (hr : (Builtin.copy_ #[t, t'] o.type #[v, u]).run P w = .ok v' w') (h : wpList P ops Q rest (a.put o.dst v') w') : wpList P ops Q (o :: rest) a w :=
  wpList_plain hgd fun _ hK => by
    unfold Oper.wp execOp
    simp only [ho, resolve, invoke, builtin, Sem.run_bind, Sem.run_pure, Result.andThen_ok, List.map_toArray, List.map_cons, List.map_nil, hd, hs, hr]
    exact hK _ _ h
theorem step_copy_r {P : Program} {ops : Array Oper} {o : Oper} {a : Act} {w : World} {K : Act → World → Prop} {Q : Exit → Act → World → Prop} {E : Prop}
    (hg : o.guard = none) (d x : Operand) (dT sT : TypeId) (hop : o.op = Op.call { callee := Callee.builtin Builtin.copy, args := #[d, x], argTypes := #[dT, sT] })
    (v u : Value) (hd : a.eval d = v) (hx : a.eval x = u) {v' : Value} {w' : World} (hr : (Builtin.copy_ #[dT, sT] o.type #[v, u]).run P w = .ok v' w') (hK : K (a.put o.dst v') w') :
    if Region.wanted o (yielded ops a.tmps) = true then Oper.wp P o a w K Q else E := by
  have hw : Region.wanted o (yielded ops a.tmps) = true := by simp [Region.wanted, hg]
  rw [if_pos hw]
  unfold Oper.wp
  simp [execOp, hop, resolve, invoke, builtin, hd, hx, hr, Result.andThen]
  exact hK
theorem at_copyH {P : Program} {ops : Array Oper} {Q : Exit → Act → World → Prop} {a : Act} {w : World} {rest : List Oper} {d : Option Tmp} {s x : Operand} {t : TypeId} {p : String} {af : Array Edge} {g : Option (Nat × Bool)}
    (h : wpList P ops Q (⟨d, .call ⟨.builtin .copy, #[s, x], #[26, 26]⟩, t, p, af, g⟩ :: rest) a w) : wpList P ops Q (⟨d, .call ⟨.builtin .copy, #[s, x], #[26, 26]⟩, t, p, af, g⟩ :: rest) a w := h
theorem at_appendZ {P : Program} {ops : Array Oper} {Q : Exit → Act → World → Prop} {a : Act} {w : World} {rest : List Oper} {d : Option Tmp} {s x : Operand} {t : TypeId} {p : String} {af : Array Edge} {g : Option (Nat × Bool)}
    (h : wpList P ops Q (⟨d, .call ⟨.builtin .append, #[s, x], #[26, 3]⟩, t, p, af, g⟩ :: rest) a w) : wpList P ops Q (⟨d, .call ⟨.builtin .append, #[s, x], #[26, 3]⟩, t, p, af, g⟩ :: rest) a w := h
theorem at_appendI {P : Program} {ops : Array Oper} {Q : Exit → Act → World → Prop} {a : Act} {w : World} {rest : List Oper} {d : Option Tmp} {s x : Operand} {t : TypeId} {p : String} {af : Array Edge} {g : Option (Nat × Bool)}
    (h : wpList P ops Q (⟨d, .call ⟨.builtin .append, #[s, x], #[26, 26]⟩, t, p, af, g⟩ :: rest) a w) : wpList P ops Q (⟨d, .call ⟨.builtin .append, #[s, x], #[26, 26]⟩, t, p, af, g⟩ :: rest) a w := h
/-- What Insert leaves. -/
def InsEnd (base : Nat) (v : Value) (E' : List (List UInt8 × Value)) (w : World) (e : Ending) (w' : World) : Prop :=
  ∃ (A' : Option Addr) (c' : Nat), e = .returned (.slice A' E'.length c') ∧ OE w' base (.slice A' E'.length c') E' ∧ w.grownBy w' v.ownBlock ∧ ((Value.slice A' E'.length c').ownBlock = v.ownBlock ∨ ∃ g, (Value.slice A' E'.length c').ownBlock = some g ∧ w.heap.size ≤ g)
set_option maxRecDepth 1000000 in
set_option maxHeartbeats 4000000 in
theorem insert_end {w : World} {base cap vb : Nat} {A : Option Addr} {E : List (List UInt8 × Value)} {k : List UInt8} (hown : OE w base (.slice A E.length cap) E) (hB : Blk w vb #[.string ⟨k.toArray⟩, .slice none 0 0] 51) (hn : E.length ≤ 1000000) (hbase : base ≤ w.heap.size) :
    Calls Tryd.prog 27 #[.slice A E.length cap, .int .i64 E.length, .slice (some ⟨vb, 0, none⟩) 1 1] w (InsEnd base (.slice A E.length cap) (E ++ [(k, .slice none 0 0)]) w) := by
  obtain ⟨v', w', h1, h2, h3, h4⟩ := run_append_E 26 w base (.slice A E.length cap) E hown vb 1 k (.slice none 0 0) rfl (hB.cell 0) (hB.cell 1) (by omega) hbase
  obtain ⟨A2, c2, hv, _⟩ := h2.form
  obtain ⟨nn, hnn⟩ : ∃ nn, nn = (E ++ [(k, Value.slice none 0 0)]).length := ⟨_, rfl⟩
  rw [← hnn] at hv
  subst hv
  have H := Lib.hid (And.intro h1 (And.intro h2 (And.intro h3 h4)))
  obtain ⟨A0, c0, e0, hle, hcm, _⟩ := hown.form
  injection e0 with ea _ ec
  subst ea
  subst ec
  have hlei : (E.length : Int) ≤ (cap : Int) := by omega
  have hfin : ∀ e, e = .returned (.slice A2 nn c2) → InsEnd base (.slice A E.length cap) (E ++ [(k, .slice none 0 0)]) w e w' := by
    rintro e rfl
    rw [hnn] at H ⊢
    refine ⟨A2, c2, rfl, H.out.2.1, H.out.2.2.1, ?_⟩
    rcases H.out.2.2.2 with h | h
    · exact .inl h
    · exact .inr ⟨_, h, Nat.le_refl _⟩
  have HF := Lib.hid hfin
  clear h1 h2 h3 h4 hown hB hle hfin hnn
  by_cases hc : cap = E.length
  · subst hc
    clear hlei
    rcases A with _ | ⟨g, o, sp⟩
    all_goals
      go_enter Tryd.func27, Tryd.ntmps27
      go_wp2_with ((with_reducible refine at_appendI ?_); refine Lib.wpList_append_run _ rfl _ _ _ _ rfl _ _ rfl rfl _ _ H.out.1 ?_)
      go_ret
      exact HF.out _ rfl
  · have hc2 : ¬ (E.length = cap) := fun e => hc e.symm
    rcases A with _ | ⟨g, o, sp⟩
    all_goals
      go_enter Tryd.func27, Tryd.ntmps27
      go_wp2_with ((with_reducible refine at_appendI ?_); refine Lib.wpList_append_run _ rfl _ _ _ _ rfl _ _ rfl rfl _ _ H.out.1 ?_)
      go_ret
      exact HF.out _ rfl
end Go.Proofs.YtilhgjcjofobeaaDoor
