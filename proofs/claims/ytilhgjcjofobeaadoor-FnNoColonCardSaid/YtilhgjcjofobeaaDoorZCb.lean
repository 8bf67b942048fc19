/- The header that readMIMEHeader makes: one value more at a key, either way. | Lists of keys with their values, the call's own (the general part of FindV, DelV, RunP, OutV, for a seat without Run). -/
import Derived.Test.YtilhgjcjofobeaaDoorZCa
import Derived.Test.YtilhgjcjofobeaaDoorZC1
namespace Go.Proofs.YtilhgjcjofobeaaDoor
open Go.RowKit Go.Maps

theorem wpList_look {ops : Array Oper} {Q : Exit → Act → World → Prop} {a : Act} {w : World} {rest : List Oper} {o : Oper} (hg : o.guard = none) (m x : Operand) (hop : o.op = Op.lookup 45 m x false)
    (b n : Nat) (val : List UInt8 → Value) (hm : a.eval m = .map (some b)) (h : MapIs w b n val) (k : List UInt8) (hx : a.eval x = .string ⟨k.toArray⟩) (hk : k.length ≤ 9223372036854775807) (u : Value) (hu : val k = u)
    (hK : wpList Tryd.prog ops Q rest (a.put o.dst u) w) : wpList Tryd.prog ops Q (o :: rest) a w := by
  subst hu
  refine wpList_plain hg fun K' hK' => ?_
  have hrun := h.look hk
  unfold Oper.wp
  simp [execOp, hop, hm, hx, hrun, Result.andThen]
  exact hK' _ _ hK
theorem HdrM.put {w w' : World} {base b sb n pos pos' m : Nat} {val : List UInt8 → Value} {f : HdrF} (h : HdrM w base b sb n pos val f) {c : List UInt8} {u : Value} {l : List (List UInt8)}
    (hm : MapIs w' b m (updF val c u)) (hnm : n ≤ m) (hsz : w.heap.size ≤ w'.heap.size) (hu : Ent w' base sb pos' u l) (hl : l.length ≤ m) (hb : ∀ g, g ≠ sb → u.ownBlock = some g → (val c).ownBlock = some g ∨ w.heap.size ≤ g)
    (hk : ∀ k, k ≠ c → Ent w' base sb pos' (val k) (f k)) (hne : l ≠ []) : HdrM w' base b sb m pos' (updF val c u) (updF f c l) := by
  have hu2 : ∀ k, k ≠ c → ∀ g, g ≠ sb → (val k).ownBlock = some g → u.ownBlock = some g → False := by
    intro k hkc g hgs h1 h2
    rcases hb g hgs h2 with h3 | h3
    · exact hkc (h.apart k c g hgs h1 h3)
    · exact absurd ((h.each k).own g h1).2 (by omega)
  refine ⟨hm, h.ge, h.sne, Nat.lt_of_lt_of_le h.slt hsz, fun k => ?_, fun k k' g hgs h1 h2 => ?_, fun k => ?_, fun k => ?_⟩
  · by_cases e : k = c
    · subst e; rw [updF_same, updF_same]; exact hu
    · rw [updF_other _ _ e, updF_other _ _ e]; exact hk k e
  · by_cases e : k = c <;> by_cases e' : k' = c
    · rw [e, e']
    · subst e; rw [updF_same] at h1; rw [updF_other _ _ e'] at h2
      exact (hu2 k' e' g hgs h2 h1).elim
    · subst e'; rw [updF_same] at h2; rw [updF_other _ _ e] at h1
      exact (hu2 k e g hgs h1 h2).elim
    · rw [updF_other _ _ e] at h1; rw [updF_other _ _ e'] at h2
      exact h.apart k k' g hgs h1 h2
  · by_cases e : k = c
    · subst e; rw [updF_same]; exact hl
    · rw [updF_other _ _ e]; exact Nat.le_trans (h.small k) hnm
  · by_cases e : k = c
    · subst e; rw [updF_same, updF_same]; exact fun _ => hne
    · rw [updF_other _ _ e, updF_other _ _ e]; exact h.full k
/-- What is known behind a value more: the header, and which blocks are as they were. -/
structure Putted (w w' : World) (base b sb n pos : Nat) (val val' : List UInt8 → Value) (f : HdrF) : Prop where
  hdr : HdrM w' base b sb n pos val' f
  keep : ∀ k, k < w.heap.size → ¬ HB b val k → k ≠ sb → w'.heap[k]? = w.heap[k]?
  more : ∀ k, HB b val' k → HB b val k ∨ k = sb ∨ w.heap.size ≤ k
  frame : Below base w w'
theorem HdrM.appended {w1 w2 w3 : World} {base b sb n pos : Nat} {val : List UInt8 → Value} {f : HdrF} (h : HdrM w1 base b sb n pos val f) (hbase : base ≤ w1.heap.size) {c : List UInt8} {u : Value} {l : List (List UInt8)}
    (hown : OS w2 base u l) (hsbu : u.ownBlock ≠ some sb) (hg : w1.grownBy w2 (if (val c).ownBlock = some sb then none else (val c).ownBlock)) (hat : ∀ k, u.ownBlock = some k → w1.heap.size ≤ k ∨ (val c).ownBlock = some k)
    (hm : MapIs w3 b (n + 1) (updF val c u)) (hg3 : w2.grownBy w3 (some b)) (hl : l.length ≤ n + 1) (hne : l ≠ []) :
    Putted w1 w3 base b sb (n + 1) pos val (updF val c u) (updF f c l) ∧ w3.heap[sb]? = w1.heap[sb]? := by
  have hsz := hg.size
  have hsz3 := hg3.size
  have hbl := h.map.lt
  have hrow : ∀ k, some k = (if (val c).ownBlock = some sb then none else (val c).ownBlock) → (val c).ownBlock = some k ∧ k ≠ sb := by
    intro k hk
    split at hk
    · cases hk
    · rename_i hne
      exact ⟨hk.symm, fun e => hne (by rw [← hk, e])⟩
  have hub : u.ownBlock ≠ some b := by
    intro e
    rcases hat b e with h1 | h1
    · omega
    · exact h.ne c h1
  have hkeep : ∀ k, k < w1.heap.size → k ≠ b → ((val c).ownBlock ≠ some k ∨ k = sb) → w3.heap[k]? = w1.heap[k]? := by
    intro k hk hkb hkc
    refine (hg3.block k (by omega) (fun e => hkb (by injection e))).trans (hg.block k hk (fun e => ?_))
    obtain ⟨e1, e2⟩ := hrow k e
    rcases hkc with h1 | h1
    · exact h1 e1
    · exact e2 h1
  have hsb : w3.heap[sb]? = w1.heap[sb]? := hkeep sb h.slt h.sne (.inr rfl)
  refine ⟨⟨h.put hm (Nat.le_succ _) (by omega) (.inl ⟨hown.of_blocks fun g hg2 hl2 => hg3.block g hl2 (fun e => by injection e with e; exact hub (by rw [hg2, e])), hsbu⟩) hl (fun g _ hg2 => (hat g hg2).symm) (fun k hk => ?_) hne, fun k hk hn hks => ?_, fun k hk => ?_, ?_⟩, hsb⟩
  · have hE := h.each k
    refine hE.of fun g hg2 hl2 => ?_
    by_cases hgs : g = sb
    · rw [hgs]; exact hsb
    · exact hkeep g hl2 (fun e => h.ne k (by rw [hg2, e])) (.inl fun e => hk (h.apart k c g hgs hg2 e))
  · exact hkeep k hk (fun e => hn (.inl e)) (.inl fun e => hn (.inr ⟨c, e⟩))
  · rcases hk with rfl | ⟨key, hk⟩
    · exact .inl (.inl rfl)
    · by_cases e : key = c
      · subst e
        rw [updF_same] at hk
        rcases hat k hk with h1 | h1
        · exact .inr (.inr h1)
        · exact .inl (.inr ⟨key, h1⟩)
      · rw [updF_other _ _ e] at hk
        exact .inl (.inr ⟨key, hk⟩)
  · refine ((Below.refl _ _).grown hg hbase (fun k hk => ?_)).grown hg3 (by omega) (fun k hk => by injection hk with hk; subst hk; exact h.ge)
    exact ((h.each c).own k (hrow k hk.symm).1).1
theorem HdrM.stored {w w3 : World} {base b sb n pos hh : Nat} {val : List UInt8 → Value} {f : HdrF} {v : Value} (h : HdrM w base b sb n pos val f) (hbase : base ≤ w.heap.size) (hs : StrsV w base sb hh pos v) (hp : pos < hh) {c s : List UInt8} (hc : f c = [])
    (hm : MapIs w3 b (n + 1) (updF val c (.slice (some ⟨sb, pos, none⟩) 1 1))) (hg3 : (w.setCell ⟨sb, pos, none⟩ (.string ⟨s.toArray⟩)).grownBy w3 (some b)) :
    Putted w w3 base b sb (n + 1) (pos + 1) val (updF val c (.slice (some ⟨sb, pos, none⟩) 1 1)) (updF f c (f c ++ [s])) ∧ ∃ cur, Blk w3 sb cur 9 ∧ cur.size = hh := by
  rcases hs with ⟨h1, _⟩ | ⟨_, hsb, rfl, cur, hB, hcur⟩
  · omega
  have hsz3 := hg3.size
  rw [World.size_setCell] at hsz3
  have hslt := h.slt
  have hB2 := hB.set pos (.string ⟨s.toArray⟩)
  have hB3 : Blk w3 sb (cur.setIfInBounds pos (.string ⟨s.toArray⟩)) 9 := hB2.same (hg3.block sb (by rw [World.size_setCell]; exact hslt) (fun e => by injection e with e; exact h.sne e))
  have hkeep : ∀ k, k < w.heap.size → k ≠ b → k ≠ sb → w3.heap[k]? = w.heap[k]? := fun k hk hkb hks => (hg3.block k (by rw [World.size_setCell]; exact hk) (fun e => hkb (by injection e))).trans (Below.heap_setCell _ _ _ _ hks)
  have hcell : ∀ j, w3.cell? ⟨sb, j, none⟩ = (cur.setIfInBounds pos (.string ⟨s.toArray⟩))[j]? := fun j => hB3.cell j
  refine ⟨⟨h.put hm (Nat.le_succ _) (by omega) ?_ (by rw [hc]; simp) (fun g hgs hg => ?_) (fun k hk => ?_) (by simp), fun k hk hn hks => hkeep k hk (fun e => hn (.inl e)) hks, fun k hk => ?_, ?_⟩, _, hB3, by simp [hcur]⟩
  · refine .inr ⟨pos, s, rfl, by rw [hc]; rfl, Nat.lt_succ_self _, hsb, ?_⟩
    rw [hcell, Array.getElem?_setIfInBounds, if_pos rfl, if_pos (by omega)]
  · injection hg with hg
    exact absurd hg.symm hgs
  · rcases h.each k with ⟨ho, hne⟩ | ⟨j, s0, e1, e2, e3, e4, e5⟩
    · refine .inl ⟨ho.of_blocks fun g hg hl => hkeep g hl (fun e => h.ne k (by rw [hg, e])) (fun e => hne (by rw [hg, e])), hne⟩
    · refine .inr ⟨j, s0, e1, e2, by omega, e4, ?_⟩
      rw [hcell, Array.getElem?_setIfInBounds, if_neg (by omega), ← hB.cell]
      exact e5
  · rcases hk with rfl | ⟨key, hk⟩
    · exact .inl (.inl rfl)
    · by_cases e : key = c
      · subst e
        rw [updF_same] at hk
        injection hk with hk
        exact .inr (.inl hk.symm)
      · rw [updF_other _ _ e] at hk
        exact .inl (.inr ⟨key, hk⟩)
  · exact ((Below.refl _ _).setCell (p := ⟨sb, pos, none⟩) hsb _).grown hg3 (by rw [World.size_setCell]; exact hbase) (fun k hk => by injection hk with hk; subst hk; exact h.ge)
theorem StrsV.put {w w' : World} {base sb h pos : Nat} {v : Value} (hs : StrsV w base sb h pos v) (hb : w'.heap[sb]? = w.heap[sb]?) : StrsV w' base sb h pos v := hs.of fun _ => hb
/-- 'strs[1:]'. -/
theorem StrsV.tail {w w' : World} {base sb h pos : Nat} {v : Value} (hs : StrsV w base sb h pos v) (hp : pos < h) (hB : ∃ cur, Blk w' sb cur 9 ∧ cur.size = h) {A : Option Addr} (hA : pos + 1 < h → A = some ⟨sb, pos + 1, none⟩) : StrsV w' base sb h (pos + 1) (.slice A (h - pos - 1) (h - pos - 1)) := by
  rcases hs with ⟨h1, _⟩ | ⟨_, hsb, _, _⟩
  · omega
  by_cases e : pos + 1 = h
  · exact .inl ⟨e, A, by rw [show h - pos - 1 = 0 by omega]⟩
  · exact .inr ⟨by omega, hsb, by rw [hA (by omega), show h - (pos + 1) = h - pos - 1 by omega], hB⟩
theorem Ent.nil {w : World} {base sb pos c n : Nat} {l : List (List UInt8)} (h : Ent w base sb pos (.slice none n c) l) : l = [] := by
  obtain ⟨A, c', e, _, _, hs, _⟩ := h.form
  injection e with e1 e2 e3
  subst e1
  rcases l with _ | ⟨s, t⟩
  · rfl
  · obtain ⟨g, o, e, _⟩ := hs (by simp)
    cases e
end Go.Proofs.YtilhgjcjofobeaaDoor
namespace Go.Proofs.YtilhgjcjofobeaaDoor
open Go.RowKit Go.Maps

/-- The cells of a list of keys, each with its values. -/
def cellsE (E : List (List UInt8 × Value)) : List Value := E.flatMap fun e => [.string ⟨e.1.toArray⟩, e.2]
theorem cellsE_length (E : List (List UInt8 × Value)) : (cellsE E).length = E.length * 2 := by
  induction E with
  | nil => rfl
  | cons e t ih => simp [cellsE] at ih ⊢; omega
theorem cellsE_append (E F : List (List UInt8 × Value)) : cellsE (E ++ F) = cellsE E ++ cellsE F := by simp [cellsE]
theorem cellsE_get0 (E : List (List UInt8 × Value)) (i : Nat) (e : List UInt8 × Value) (h : E[i]? = some e) : (cellsE E)[i * 2]? = some (.string ⟨e.1.toArray⟩) ∧ (cellsE E)[i * 2 + 1]? = some e.2 := by
  induction E generalizing i with
  | nil => simp at h
  | cons a t ih =>
    have hc : cellsE (a :: t) = .string ⟨a.1.toArray⟩ :: a.2 :: cellsE t := by simp [cellsE]
    rcases i with _ | i
    · simp at h; subst h; rw [hc]; exact ⟨rfl, rfl⟩
    · simp at h
      obtain ⟨h1, h2⟩ := ih i h
      rw [hc, show (i + 1) * 2 = i * 2 + 1 + 1 by omega]
      exact ⟨by simpa using h1, by simpa using h2⟩
/-- A slice's address under which keys with their values lie. -/
def KR (w : World) (A : Option Addr) (E : List (List UInt8 × Value)) : Prop :=
  E ≠ [] → ∃ g, A = some ⟨g, 0, none⟩ ∧ ∀ i e, E[i]? = some e → w.cell? ⟨g, i * 2, none⟩ = some (.string ⟨e.1.toArray⟩) ∧ w.cell? ⟨g, i * 2 + 1, none⟩ = some e.2
theorem Tryd.infoH : (Tryd.prog.info? 51).map (fun i => (i.zero, i.size, i.bytes)) = some (some (.agg #[.string ⟨#[]⟩, .slice none 0 0]), 2, 40) := by kernel_rfl
/-- An owned list of keys with their values. -/
def OE (w : World) (base : Nat) (v : Value) (E : List (List UInt8 × Value)) : Prop := w.ownsRow base 51 2 v E.length (cellsE E)
theorem cellsE_one (E : List (List UInt8 × Value)) (hv : ∀ e ∈ E, ∃ A n c, e.2 = .slice A n c) : ∀ u ∈ cellsE E, u.oneCell' = true := by
  intro u hu
  simp only [cellsE, List.mem_flatMap] at hu
  obtain ⟨e, he, hu⟩ := hu
  obtain ⟨A, n, c, h⟩ := hv e he
  simp only [List.mem_cons, List.not_mem_nil, or_false] at hu
  rcases hu with rfl | rfl
  · rfl
  · rw [h]; rfl
theorem cellsE_take (E : List (List UInt8 × Value)) (i : Nat) : cellsE (E.take i) = (cellsE E).take (i * 2) := by
  induction E generalizing i with
  | nil => simp [cellsE]
  | cons e t ih =>
    rcases i with _ | i
    · simp [cellsE]
    · have h := ih i
      have hc : cellsE (e :: t) = .string ⟨e.1.toArray⟩ :: e.2 :: cellsE t := by simp [cellsE]
      have hc2 : cellsE (e :: t.take i) = .string ⟨e.1.toArray⟩ :: e.2 :: cellsE (t.take i) := by simp [cellsE]
      rw [List.take_succ_cons, hc, hc2, h, show (i + 1) * 2 = i * 2 + 1 + 1 by omega]
      simp
theorem cellsE_drop (E : List (List UInt8 × Value)) (i : Nat) : cellsE (E.drop i) = (cellsE E).drop (i * 2) := by
  induction E generalizing i with
  | nil => simp [cellsE]
  | cons e t ih =>
    rcases i with _ | i
    · simp
    · have h := ih i
      have hc : cellsE (e :: t) = .string ⟨e.1.toArray⟩ :: e.2 :: cellsE t := by simp [cellsE]
      rw [List.drop_succ_cons, hc, h, show (i + 1) * 2 = i * 2 + 1 + 1 by omega]
      simp
theorem OE.nil (w : World) (base : Nat) : OE w base (.slice none 0 0) [] := World.ownsRow_nil _ _ _ _
theorem OE.lt {w : World} {base : Nat} {v : Value} {E : List (List UInt8 × Value)} (h : OE w base v E) : ∀ k, v.ownBlock = some k → base ≤ k ∧ k < w.heap.size := World.ownsRow.lt h
theorem OE.of_blocks {w w' : World} {base : Nat} {v : Value} {E : List (List UInt8 × Value)} (h : OE w base v E) (hb : ∀ k, v.ownBlock = some k → k < w.heap.size → w'.heap[k]? = w.heap[k]?) : OE w' base v E := by
  have hlt := h.lt
  obtain ⟨h1, h2⟩ := h
  refine ⟨h1, ?_⟩
  rcases h2 with ⟨rfl, h0⟩ | ⟨g, cap, cur, rfl, hbg, hg, r⟩
  · exact .inl ⟨rfl, h0⟩
  · exact .inr ⟨g, cap, cur, rfl, hbg, by rw [hb g rfl (hlt g rfl).2]; exact hg, r⟩
/-- What an owned list of keys looks like. -/
theorem OE.form {w : World} {base : Nat} {v : Value} {E : List (List UInt8 × Value)} (h : OE w base v E) : ∃ A c, v = .slice A E.length c ∧ E.length ≤ c ∧ c ≤ 9223372036854775807 ∧ KR w A E ∧ (∀ g o s, A = some ⟨g, o, s⟩ → o = 0 ∧ s = none ∧ ∃ cur, Blk w g cur 51 ∧ cur.size = c * 2) := by
  obtain ⟨h1, h2⟩ := h
  rcases h2 with ⟨rfl, h0⟩ | ⟨g, cap, cur, rfl, hb, hg, hn, hm, hs, ht⟩
  · have : E = [] := List.eq_nil_of_length_eq_zero h0
    subst this
    exact ⟨none, 0, rfl, Nat.le_refl _, by decide, fun h => absurd rfl h, fun g o s h => by cases h⟩
  · refine ⟨some ⟨g, 0, none⟩, cap, rfl, hn, by unfold maxLen at hm; omega, fun _ => ⟨g, rfl, fun i e he => ?_⟩, fun g' o s e => ?_⟩
    · have hB : Blk w g cur 51 := hg
      have hi : i < E.length := (List.getElem?_eq_some_iff.1 he).1
      obtain ⟨c0, c1⟩ := cellsE_get0 E i e he
      rw [hB.cell, hB.cell]
      rw [← ht, List.getElem?_take, if_pos (by omega), Array.getElem?_toList] at c0 c1
      exact ⟨c0, c1⟩
    · injection e with e; injection e with e1 e2 e3; subst e1 e2 e3
      exact ⟨rfl, rfl, cur, hg, hs⟩
theorem cellsE_set (E : List (List UInt8 × Value)) (i : Nat) (c : List UInt8) (u0 u : Value) (h : E[i]? = some (c, u0)) : cellsE (E.set i (c, u)) = (cellsE E).set (i * 2 + 1) u := by
  induction E generalizing i with
  | nil => simp at h
  | cons e t ih =>
    have hc : cellsE (e :: t) = .string ⟨e.1.toArray⟩ :: e.2 :: cellsE t := by simp [cellsE]
    rcases i with _ | i
    · simp at h
      subst h
      rw [hc]
      simp [cellsE]
    · simp at h
      have h2 := ih i h
      have hc2 : cellsE (e :: t.set i (c, u)) = .string ⟨e.1.toArray⟩ :: e.2 :: cellsE (t.set i (c, u)) := by simp [cellsE]
      rw [List.set_cons_succ, hc, hc2, h2, show (i + 1) * 2 + 1 = i * 2 + 1 + 1 + 1 by omega]
      simp
theorem OE.set {w : World} {base g n cap : Nat} {E : List (List UInt8 × Value)} (h : OE w base (.slice (some ⟨g, 0, none⟩) n cap) E) {i : Nat} {c : List UInt8} {u0 : Value} (hi : E[i]? = some (c, u0)) (u : Value) :
    OE (w.setCell ⟨g, i * 2 + 1, none⟩ u) base (.slice (some ⟨g, 0, none⟩) n cap) (E.set i (c, u)) := by
  have hlt : i < E.length := (List.getElem?_eq_some_iff.1 hi).1
  obtain ⟨h1, h2⟩ := h
  unfold OE
  rw [List.length_set]
  refine ⟨by rw [cellsE_length, List.length_set], ?_⟩
  rcases h2 with ⟨h, _⟩ | ⟨g', cap', cur, h, hb, hg, hn, hm, hs, ht⟩
  · cases h
  · simp only [Value.slice.injEq, Option.some.injEq, Addr.mk.injEq, and_true] at h
    obtain ⟨rfl, rfl, rfl⟩ := h
    have hB : Blk w g cur 51 := hg
    refine .inr ⟨g, cap, _, rfl, hb, hB.set (i * 2 + 1) u, hn, hm, by simp [hs], ?_⟩
    rw [cellsE_set E i c u0 u hi, ← ht, Array.toList_setIfInBounds, List.take_set]
theorem run_append_E (ty : TypeId) (w : World) (base : Nat) (v : Value) (E : List (List UInt8 × Value)) (hown : OE w base v E) (g cp : Nat) (c : List UInt8) (u : Value) (hu : u.oneCell' = true) (h0 : w.cell? ⟨g, 0, none⟩ = some (.string ⟨c.toArray⟩)) (h1 : w.cell? ⟨g, 1, none⟩ = some u)
    (hlen : (E.length + 1) * 40 ≤ 140737488355328) (hbase : base ≤ w.heap.size) :
    ∃ v' w', (Builtin.append_ #[26, 26] ty #[v, .slice (some ⟨g, 0, none⟩) 1 cp]).run Tryd.prog w = .ok v' w' ∧ OE w' base v' (E ++ [(c, u)]) ∧ w.grownBy w' v.ownBlock ∧ (v'.ownBlock = v.ownBlock ∨ v'.ownBlock = some w.heap.size) := by
  obtain ⟨i0, hi, hz0, hz1, hz2⟩ := info_parts Tryd.infoH
  obtain ⟨v', w', e1, e2, e3, _, e5⟩ := run_append_own_at (P := Tryd.prog) w base 26 ty 51 i0 _ 2 40 Tryd.underlying26 hi hz0 hz1 hz2 rfl (by decide) v E.length (cellsE E) hown ⟨g, 0, none⟩ 1 cp [.string ⟨c.toArray⟩, u] rfl
    (fun j y hy => by
      rcases j with _ | _ | j
      · simp at hy; subst hy; exact h0
      · simp at hy; subst hy; exact h1
      · simp at hy) (fun y hy => by simp at hy; rcases hy with rfl | rfl; exact rfl; exact hu) (by unfold maxLen; omega) hlen hbase
  refine ⟨v', w', e1, ?_, e3, e5⟩
  unfold OE
  rw [cellsE_append, List.length_append]
  have : cellsE [(c, u)] = [.string ⟨c.toArray⟩, u] := by simp [cellsE]
  rw [this]
  exact e2
/-- A slice of strings, as a value, that reads as l and lies in a block of which P. -/
def SVal (w : World) (P : Nat → Prop) (v : Value) (l : List (List UInt8)) : Prop := ∃ A c, v = .slice A l.length c ∧ l.length ≤ c ∧ c ≤ 9223372036854775807 ∧ SL w A l ∧ ∀ g o, A = some ⟨g, o, none⟩ → l ≠ [] → P g
theorem SVal.nil (w : World) (P : Nat → Prop) : SVal w P (.slice none 0 0) [] := ⟨none, 0, rfl, Nat.le_refl _, by decide, SL.nil _ _, fun _ _ h => by cases h⟩
theorem SVal.one {w : World} {P : Nat → Prop} {v : Value} {l : List (List UInt8)} (h : SVal w P v l) : v.oneCell' = true := by
  obtain ⟨A, c, rfl, _⟩ := h
  rfl
theorem SL.of_block {w w' : World} {A : Option Addr} {ls : List (List UInt8)} (h : SL w A ls) (hb : ∀ g o, A = some ⟨g, o, none⟩ → ls ≠ [] → g < w.heap.size → w'.heap[g]? = w.heap[g]?) : SL w' A ls := by
  intro hne
  obtain ⟨g, o, he, hx⟩ := h hne
  exact ⟨g, o, he, fun i u hu => (World.cell?_of_block (w := w) (a := ⟨g, o + i, none⟩) (hb g o he hne (h.lt g o he hne))).trans (hx i u hu)⟩
theorem SVal.of {w w' : World} {P Q : Nat → Prop} {v : Value} {l : List (List UInt8)} (h : SVal w P v l) (hb : ∀ g, P g → g < w.heap.size → w'.heap[g]? = w.heap[g]?) (hq : ∀ g, P g → g < w.heap.size → Q g) : SVal w' Q v l := by
  obtain ⟨A, c, h1, h2, h3, h4, h5⟩ := h
  exact ⟨A, c, h1, h2, h3, h4.of_block fun g o e hne hl => hb g (h5 g o e hne) hl, fun g o e hne => hq g (h5 g o e hne) (h4.lt g o e hne)⟩
end Go.Proofs.YtilhgjcjofobeaaDoor
