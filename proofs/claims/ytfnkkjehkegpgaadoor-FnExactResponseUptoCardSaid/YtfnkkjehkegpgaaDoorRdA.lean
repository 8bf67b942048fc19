/- The reader beneath a bufio.Reader, told as a thing with bytes that are left; bytes.Reader is one. The walk of its Read. -/
import Derived.Test.YtfnkkjehkegpgaaDoorRd
namespace Go.Proofs.YtfnkkjehkegpgaaDoor
open Go.RowKit

theorem exec_builtin_copy {P : Program} {o : Oper} {a : Act} {w w' : World} {s x : Operand} {t u : TypeId} {v v' y : Value} (ho : o.op = .call { callee := .builtin .copy, args := #[s, x], argTypes := #[t, u] })
    (hs : a.eval s = v) (hx : a.eval x = y) (hr : (Builtin.copy_ #[t, u] o.type #[v, y]).run P w = .ok v' w') : (execOp a.eval o).run P w = .ok (.value v') w' := by
  unfold execOp
  simp only [ho, resolve, invoke, builtin, Sem.run_bind, Sem.run_pure, Result.andThen_ok, List.map_toArray, List.map_cons, List.map_nil, hs, hx, hr]
theorem addr_add (g o i : Nat) : (Addr.mk g o none).add i = ⟨g, o + i, none⟩ := by
  unfold Addr.add
  split
  · rename_i h0; subst h0; rfl
  · rfl
set_option maxRecDepth 100000 in
/-- 'copy(d, s)', d within the first N cells of a block of bytes. -/
theorem run_copy_B {w : World} {g dof dl dc : Nat} {A : Option Addr} {sl sc : Nat} {l : List UInt8} (hsl : sl = l.length) (hr : RB w A l) {N : Nat} {L : List UInt8} (hrow : RowB w g N L) (hN : dof + dl ≤ N) (ty : TypeId) :
    (Builtin.copy_ #[23, 23] ty #[.slice (some ⟨g, dof, none⟩) dl dc, .slice A sl sc]).run Tryd.prog w = .ok (.int .i64 (min sl dl : Nat)) (w.setCells g dof (bts (l.take (min sl dl)))) := by
  subst hsl
  have hsz : (Tryd.prog.info? 5).map (·.size) = some 1 := by kernel_rfl
  by_cases h0 : min l.length dl = 0
  · rw [run_copy_none w 23 23 ty 5 _ A dl dc l.length sc Tryd.underlying23 hsz h0, h0]
    rfl
  · have hne : l ≠ [] := by rintro rfl; simp at h0
    obtain ⟨sg, so, rfl, hx⟩ := hr hne
    have hlen : (bts (l.take (min l.length dl))).length = min l.length dl := by rw [bts_length, List.length_take, Nat.min_assoc, Nat.min_comm dl, ← Nat.min_assoc, Nat.min_self]
    rw [run_copy_cells w 23 23 ty 5 g dof dl dc ⟨sg, so, none⟩ l.length sc (bts (l.take (min l.length dl))) Tryd.underlying23 hsz (by rw [hlen]) (fun j v hv => ?_) (fun j hj => ?_) (fun j hj => ?_) (bts_one _), hlen]
    · rfl
    · rw [bts_get] at hv
      rw [addr_add]
      cases hj : (l.take (min l.length dl))[j]? with
      | none => rw [hj] at hv; cases hv
      | some u =>
        rw [hj] at hv
        injection hv with hv
        subst hv
        refine hx j u ?_
        rw [List.getElem?_take] at hj
        split at hj
        · exact hj
        · cases hj
    · rw [hlen] at hj
      rw [hrow.cell (by omega)]; rfl
    · rw [hlen] at hj
      exact hrow.free (by omega)
set_option maxRecDepth 100000 in
theorem wpList_copy_B {ops : Array Oper} {Q : Exit → Act → World → Prop} {a : Act} {w : World} {rest : List Oper} {o : Oper}
    (hw : Region.wanted o (yielded ops a.tmps) = true) (d s : Operand) (ho : o.op = .call { callee := .builtin .copy, args := #[d, s], argTypes := #[23, 23] })
    (g dof dl dc : Nat) (hd : a.eval d = .slice (some ⟨g, dof, none⟩) dl dc) (A : Option Addr) (sl sc : Nat) (hs : a.eval s = .slice A sl sc) (l : List UInt8) (hsl : sl = l.length) (hr : RB w A l)
    {N : Nat} {L : List UInt8} (hrow : RowB w g N L) (hN : dof + dl ≤ N) (k : Nat) (hk : k = min sl dl)
    (h : wpList Tryd.prog ops Q rest (a.put o.dst (.int .i64 k)) (w.setCells g dof (bts (l.take k)))) : wpList Tryd.prog ops Q (o :: rest) a w := by
  rw [hk] at h
  exact wpList_value hw (exec_builtin_copy ho hd hs (run_copy_B hsl hr hrow hN o.type)) h
/-- A guard for an arm: the next operation is a copy of bytes. -/
theorem at_copyB {P : Program} {ops : Array Oper} {Q : Exit → Act → World → Prop} {a : Act} {w : World} {rest : List Oper} {d : Option Tmp} {s x : Operand} {t : TypeId} {p : String} {af : Array Edge} {g : Option (Nat × Bool)}
    (h : wpList P ops Q (⟨d, .call ⟨.builtin .copy, #[s, x], #[23, 23]⟩, t, p, af, g⟩ :: rest) a w) : wpList P ops Q (⟨d, .call ⟨.builtin .copy, #[s, x], #[23, 23]⟩, t, p, af, g⟩ :: rest) a w := h

/-- Sentinels that lie below a base. -/
structure SensB (base : Nat) (w : World) (E : Nat → Addr) (gs : List Nat) : Prop where
  s : Sens w E gs
  lo : ∀ g ∈ gs, g < base ∧ (E g).block < base
theorem SensB.below {base : Nat} {w w' : World} {E : Nat → Addr} {gs : List Nat} (h : SensB base w E gs) (hb : Below base w w') : SensB base w' E gs :=
  ⟨h.s.of_blocks fun g hg => ⟨hb.block _ (h.lo g hg).1, hb.block _ (h.lo g hg).2⟩, h.lo⟩

/-- A reader beneath: its interface value, what it has left, the blocks that it lives in. -/
structure Und where
  rd : Value
  at_ : World → List UInt8 → Prop
  own : Nat → Prop
  same : ∀ {w w' : World} {U : List UInt8}, at_ w U → (∀ k, own k → w'.heap[k]? = w.heap[k]?) → at_ w' U
  lt : ∀ {w : World} {U : List UInt8}, at_ w U → ∀ k, own k → k < w.heap.size

/-- A bytes.Reader in block q over bytes of block sb. -/
def BR (q sb : Nat) (w : World) (U : List UInt8) : Prop :=
  ∃ (A : Option Addr) (n c i : Nat) (l : List UInt8) (pr : Int), Blk w q #[.slice A n c, .int .i64 i, .int .i64 pr] 82 ∧ RB w A l ∧ (∀ g o, A = some ⟨g, o, none⟩ → g = sb) ∧ sb < w.heap.size ∧ l.length = n ∧ n ≤ c ∧ c ≤ 9223372036854775807 ∧ i ≤ n ∧ l.drop i = U
theorem BR.same {q sb : Nat} {w w' : World} {U : List UInt8} (h : BR q sb w U) (hs : ∀ k, (k = q ∨ k = sb) → w'.heap[k]? = w.heap[k]?) : BR q sb w' U := by
  obtain ⟨A, n, c, i, l, pr, h1, h2, h3, h4, h5, h6, h7, h8, h9⟩ := h
  have hsb := hs sb (.inr rfl)
  refine ⟨A, n, c, i, l, pr, h1.same (hs q (.inl rfl)), h2.same (fun g o he _ => ?_), h3, ?_, h5, h6, h7, h8, h9⟩
  · have := h3 g o he; subst this; exact hsb
  · rcases Nat.lt_or_ge sb w'.heap.size with h' | h'
    · exact h'
    · rw [Array.getElem?_eq_none h', Array.getElem?_eq_getElem h4] at hsb; cases hsb
def KB (q sb : Nat) : Und where
  rd := .iface 57 (.pointer (some ⟨q, 0, none⟩))
  at_ := BR q sb
  own k := k = q ∨ k = sb
  same h hs := h.same hs
  lt h k hk := by
    obtain ⟨A, n, c, i, l, pr, h1, h2, h3, h4, _⟩ := h
    rcases hk with rfl | rfl
    · exact h1.lt
    · exact h4

theorem brRead_end {E : Nat → Addr} {gs : List Nat} {q sb : Nat} {w : World} (h : BR q sb w []) (hs : Sens w E gs) (hg : 0 ∈ gs) (dst : Value) :
    Calls Tryd.prog 96 #[.pointer (some ⟨q, 0, none⟩), dst] w fun e w' => e = .returned (.tuple #[.int .i64 0, .iface 118 (.pointer (some (E 0)))]) ∧ Only w w' := by
  obtain ⟨A, n, c, i, l, pr, h1, h2, h3, h4, h5, h6, h7, h8, h9⟩ := h
  have hin : n = i := by
    have : (l.drop i).length = 0 := by rw [h9]; rfl
    rw [List.length_drop] at this; omega
  subst hin
  have c0 : w.cell? ⟨q, 0, none⟩ = some (.slice A n c) := h1.cell 0
  have c1 : w.cell? ⟨q, 1, none⟩ = some (.int .i64 n) := h1.cell 1
  have hE := (hs.sen _ hg).cell
  clear h1 h2 h3 h4 h5 h9 hs
  go_enter Tryd.func96, Tryd.ntmps96
  go_wp2
  go_quiet (fail)
  go_wp2
  go_quiet (fail)
  go_wp2
  go_ret2
  exact ⟨rfl, ((Only.refl _).drewN _).drewN _⟩
theorem RB.drop {w : World} {g o : Nat} {l : List UInt8} (h : RB w (some ⟨g, o, none⟩) l) (i : Nat) : RB w (some ⟨g, o + i, none⟩) (l.drop i) := by
  intro hne
  have hl : l ≠ [] := by rintro rfl; simp at hne
  obtain ⟨g', o', he, hx⟩ := h hl
  injection he with he
  injection he with h1 h2
  subst h1; subst h2
  refine ⟨_, _, rfl, fun j u hu => ?_⟩
  rw [List.getElem?_drop] at hu
  rw [Nat.add_assoc]
  exact hx _ u hu
set_option maxRecDepth 200000 in
theorem brRead_some {q sb : Nat} {w : World} {U : List UInt8} (h : BR q sb w U) (hU : U ≠ []) {g o m c N : Nat} {L : List UInt8} (hrow : RowB w g N L) (hm : 0 < m) (hN : o + m ≤ N) (hgq : g ≠ q) (hgs : g ≠ sb) (hsq : sb ≠ q) :
    Calls Tryd.prog 96 #[.pointer (some ⟨q, 0, none⟩), .slice (some ⟨g, o, none⟩) m c] w fun e w' =>
      e = .returned (.tuple #[.int .i64 (min U.length m : Nat), .nilIface]) ∧ BR q sb w' (U.drop m) ∧ RowB w' g N (splice L o (U.take m)) ∧ Chg (fun k => k = q ∨ k = g) w w' := by
  obtain ⟨A, n, cc, i, l, pr, h1, h2, h3, h4, h5, h6, h7, h8, h9⟩ := h
  have hin : i < n := by
    have : 0 < (l.drop i).length := by rw [h9]; exact List.length_pos_iff.2 hU
    rw [List.length_drop] at this; omega
  have c0 : w.cell? ⟨q, 0, none⟩ = some (.slice A n cc) := h1.cell 0
  have c1 : w.cell? ⟨q, 1, none⟩ = some (.int .i64 i) := h1.cell 1
  have c2 : w.cell? ⟨q, 2, none⟩ = some (.int .i64 pr) := h1.cell 2
  have f2 := h1.free 2
  obtain ⟨sg, so, hA, _⟩ := h2 (by rintro rfl; simp at h5; omega)
  subst hA
  obtain rfl := h3 sg so rfl
  have hci : ¬ cc = i := by omega
  have hk : min (n - i) m = min U.length m := by rw [← h9, List.length_drop, h5]
  have hdl : (l.drop i).length = n - i := by rw [List.length_drop, h5]
  have H := Lib.hid (And.intro h1 (And.intro h2 (And.intro h3 (And.intro hrow (And.intro h9 (And.intro h5 (And.intro hk hdl)))))))
  clear h1 h2 h3 hrow h5 h9 hk hdl
  go_enter Tryd.func96, Tryd.ntmps96
  go_wp2
  go_quiet (fail)
  go_wp2
  have hO : Only w (w.drewN nq) := (Only.refl w).drewN nq
  have H1 := H.out
  have B1 : Blk ((w.drewN nq).setCell ⟨q, 2, none⟩ (.int .i64 (-1))) q #[.slice (some ⟨sg, so, none⟩) n cc, .int .i64 i, .int .i64 (-1)] 82 := (H1.1.same (hO.at_ q)).set 2 _
  have C1 : Chg (fun k => k = q) w ((w.drewN nq).setCell ⟨q, 2, none⟩ (.int .i64 (-1))) := (hO.chg (fun k => k = q)).setCell (p := ⟨q, 2, none⟩) (fun _ => rfl) _
  generalize (w.drewN nq).setCell ⟨q, 2, none⟩ (.int .i64 (-1)) = w1 at B1 C1 ⊢
  refine wp_still_drew 10 Tryd.mixedD (by kernel_rfl) (fun w2 hw2 => ?_)
  replace B1 : Blk w2 q #[.slice (some ⟨sg, so, none⟩) n cc, .int .i64 i, .int .i64 (-1)] 82 := by rw [hw2]; exact B1
  replace C1 : Chg (fun k => k = q) w w2 := by rw [hw2]; exact C1.drew
  clear hw2 c0 c1 c2 f2 hO
  have c0 : w2.cell? ⟨q, 0, none⟩ = some (.slice (some ⟨sg, so, none⟩) n cc) := B1.cell 0
  have c1 : w2.cell? ⟨q, 1, none⟩ = some (.int .i64 i) := B1.cell 1
  have f1 := B1.free 1
  have h2 : RB w2 (some ⟨sg, so, none⟩) l := H1.2.1.same (fun g' o' he _ => C1.block _ (by have := H1.2.2.1 g' o' he; omega) (by have := H1.2.2.1 g' o' he; show ¬ g' = q; omega))
  have K := Lib.hid (And.intro B1 C1)
  clear H1 B1 C1
  simp only [List.take_succ_cons, List.take_zero, List.drop_succ_cons, List.drop_zero]
  repeat still_step
  refine wpStill_nil ?_
  obtain ⟨B1, C1⟩ := K.out
  obtain ⟨hB, hrl, hsame, hrow, h9, h5, hk, hdl⟩ := H.out
  have hrow2 : RowB w2 g N L := hrow.same (C1.block _ (hrow.lt (by omega)) hgq)
  refine wpList_copy_B rfl (.tmp 20) (.tmp 29) rfl g o m c rfl (some ⟨sg, so + i, none⟩) (n - i) (cc - i) rfl (l.drop i) hdl.symm (h2.drop i) hrow2 hN (min (n - i) m) rfl ?_
  have hX : (l.drop i).take (min (n - i) m) = U.take m := by
    rw [h9, hk, List.take_eq_take_iff]; omega
  have hkl : (U.take m).length = min (n - i) m := by rw [hk, List.length_take, Nat.min_comm]
  rw [hX]
  have R3 : RowB (w2.setCells g o (bts (U.take m))) g N (splice L o (U.take m)) := hrow2.setCells (by rw [hkl]; omega)
  have B3 : Blk (w2.setCells g o (bts (U.take m))) q #[.slice (some ⟨sg, so, none⟩) n cc, .int .i64 i, .int .i64 (-1)] 82 := B1.same (heap_setCells g _ _ _ _ (Ne.symm hgq))
  have S3 : RB (w2.setCells g o (bts (U.take m))) (some ⟨sg, so, none⟩) l := h2.same (fun g' o' he _ => heap_setCells g _ _ _ _ (by have := hsame g' o' he; omega))
  have C3 : Chg (fun k => k = q ∨ k = g) w (w2.setCells g o (bts (U.take m))) := (C1.sub (fun _ _ h => .inl h)).setCells (g := g) (fun _ => .inr rfl) _ _
  generalize w2.setCells g o (bts (U.take m)) = w3 at R3 B3 S3 C3 ⊢
  clear c0 c1 f1 h2 B1 C1 hB hrl hrow hrow2
  have c1 : w3.cell? ⟨q, 1, none⟩ = some (.int .i64 i) := B3.cell 1
  have f1 := B3.free 1
  have hnum : min (n - i) m = min U.length m := hk
  have K2 := Lib.hid (And.intro R3 (And.intro B3 (And.intro S3 (And.intro C3 (And.intro hX (And.intro hkl (And.intro h9 (And.intro hk hsame))))))))
  clear R3 B3 S3 C3 hX hkl hsame h9 hk hdl h5 hnum
  go_wp2
  go_ret2
  obtain ⟨R3, B3, S3, C3, hX, hkl, h9, hk, hsame⟩ := K2.out
  obtain ⟨_, _, _, _, _, h5, _, _⟩ := H.out
  have hd : l.drop (i + min (n - i) m) = U.drop m := by
    rw [← List.drop_drop, h9, hk]
    rcases Nat.le_total U.length m with h' | h'
    · rw [Nat.min_eq_left h', List.drop_length, List.drop_eq_nil_of_le h']
    · rw [Nat.min_eq_right h']
  refine ⟨by rw [hk]; rfl, ?_, R3.same (Below.heap_setCell _ _ _ _ hgq), C3.setCell (p := ⟨q, 1, none⟩) (fun _ => .inl rfl) _⟩
  refine ⟨some ⟨sg, so, none⟩, n, cc, i + min (n - i) m, l, -1, ?_, S3.same (fun g' o' he _ => Below.heap_setCell _ _ _ _ (by have := hsame g' o' he; show g' ≠ q; omega)), hsame, ?_, h5, h6, h7, by omega, hd⟩
  · have := B3.set 1 (.int .i64 ((i : Int) + (min (n - i) m : Nat)))
    rw [show ((i + min (n - i) m : Nat) : Int) = (i : Int) + (min (n - i) m : Nat) by omega]
    exact this
  · rw [World.size_setCell]
    exact Nat.lt_of_lt_of_le h4 C3.size
end Go.Proofs.YtfnkkjehkegpgaaDoor
