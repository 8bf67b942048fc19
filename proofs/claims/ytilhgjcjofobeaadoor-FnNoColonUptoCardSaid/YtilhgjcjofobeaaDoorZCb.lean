/- The header that readMIMEHeader makes: one value more at a key, either way. | Lists of keys with their values, the call's own (the general part of FindV, DelV, RunP, OutV, for a seat without Run). | slices.SortFunc at keys with their values. | impl.Headers: the list that is made of the map. No walk. | The state of readMIMEHeader: the reader and the header, apart from each other. -/
import Derived.Test.YtilhgjcjofobeaaDoorZCa
import Derived.Test.YtilhgjcjofobeaaDoorZC1
import Derived.Test.YtilhgjcjofobeaaDoorShelfT
import Derived.Test.YtilhgjcjofobeaaDoorZC8
import Derived.Test.YtilhgjcjofobeaaDoorShelfL
namespace Go.Proofs.YtilhgjcjofobeaaDoor
open Go.RowKit Go.Maps

theorem wpList_look {ops : Array Oper} {Q : Exit → Act → World → Prop} {a : Act} {w : World} {rest : List Oper} {o : Oper} (hg : o.guard = none) (m x : Operand) (hop : o.op = Op.lookup 45 m x false)
    (b n : Nat) (val : List UInt8 → Value) (hm : a.eval m = .map (some b)) (h : MapIs w b n val) (k : List UInt8) (hx : a.eval x = .string ⟨k.toArray⟩) (hk : k.length ≤ 9223372036854775807) (u : Value) (hu : val k = u)
    (hK : wpList Tryd.prog ops Q rest (a.put o.dst u) w) : wpList Tryd.prog ops Q (o :: rest) a w := by
  subst hu
  refine wpList_plain hg fun K' hK' => ?_
  have hrun := h.look hk
  unfold Oper.wp
  simp [execOp, hop, hm, hx, hrun, Result.andThen]
  exact hK' _ _ hK
theorem HdrM.put {w w' : World} {base b sb n pos pos' m : Nat} {val : List UInt8 → Value} {f : HdrF} (h : HdrM w base b sb n pos val f) {c : List UInt8} {u : Value} {l : List (List UInt8)}
    (hm : MapIs w' b m (updF val c u)) (hnm : n ≤ m) (hsz : w.heap.size ≤ w'.heap.size) (hu : Ent w' base sb pos' u l) (hl : l.length ≤ m) (hb : ∀ g, g ≠ sb → u.ownBlock = some g → (val c).ownBlock = some g ∨ w.heap.size ≤ g)
    (hk : ∀ k, k ≠ c → Ent w' base sb pos' (val k) (f k)) (hne : l ≠ []) : HdrM w' base b sb m pos' (updF val c u) (updF f c l) := by
  have hu2 : ∀ k, k ≠ c → ∀ g, g ≠ sb → (val k).ownBlock = some g → u.ownBlock = some g → False := by
    intro k hkc g hgs h1 h2
    rcases hb g hgs h2 with h3 | h3
    · exact hkc (h.apart k c g hgs h1 h3)
    · exact absurd ((h.each k).own g h1).2 (by omega)
  refine ⟨hm, h.ge, h.sne, Nat.lt_of_lt_of_le h.slt hsz, fun k => ?_, fun k k' g hgs h1 h2 => ?_, fun k => ?_, fun k => ?_⟩
  · by_cases e : k = c
    · subst e; rw [updF_same, updF_same]; exact hu
    · rw [updF_other _ _ e, updF_other _ _ e]; exact hk k e
  · by_cases e : k = c <;> by_cases e' : k' = c
    · rw [e, e']
    · subst e; rw [updF_same] at h1; rw [updF_other _ _ e'] at h2
      exact (hu2 k' e' g hgs h2 h1).elim
    · subst e'; rw [updF_same] at h2; rw [updF_other _ _ e] at h1
      exact (hu2 k e g hgs h1 h2).elim
    · rw [updF_other _ _ e] at h1; rw [updF_other _ _ e'] at h2
      exact h.apart k k' g hgs h1 h2
  · by_cases e : k = c
    · subst e; rw [updF_same]; exact hl
    · rw [updF_other _ _ e]; exact Nat.le_trans (h.small k) hnm
  · by_cases e : k = c
    · subst e; rw [updF_same, updF_same]; exact fun _ => hne
    · rw [updF_other _ _ e, updF_other _ _ e]; exact h.full k
/-- What is known behind a value more: the header, and which blocks are as they were. -/
structure Putted (w w' : World) (base b sb n pos : Nat) (val val' : List UInt8 → Value) (f : HdrF) : Prop where
  hdr : HdrM w' base b sb n pos val' f
  keep : ∀ k, k < w.heap.size → ¬ HB b val k → k ≠ sb → w'.heap[k]? = w.heap[k]?
  more : ∀ k, HB b val' k → HB b val k ∨ k = sb ∨ w.heap.size ≤ k
  frame : Below base w w'
theorem HdrM.appended {w1 w2 w3 : World} {base b sb n pos : Nat} {val : List UInt8 → Value} {f : HdrF} (h : HdrM w1 base b sb n pos val f) (hbase : base ≤ w1.heap.size) {c : List UInt8} {u : Value} {l : List (List UInt8)}
    (hown : OS w2 base u l) (hsbu : u.ownBlock ≠ some sb) (hg : w1.grownBy w2 (if (val c).ownBlock = some sb then none else (val c).ownBlock)) (hat : ∀ k, u.ownBlock = some k → w1.heap.size ≤ k ∨ (val c).ownBlock = some k)
    (hm : MapIs w3 b (n + 1) (updF val c u)) (hg3 : w2.grownBy w3 (some b)) (hl : l.length ≤ n + 1) (hne : l ≠ []) :
    Putted w1 w3 base b sb (n + 1) pos val (updF val c u) (updF f c l) ∧ w3.heap[sb]? = w1.heap[sb]? := by
  have hsz := hg.size
  have hsz3 := hg3.size
  have hbl := h.map.lt
  have hrow : ∀ k, some k = (if (val c).ownBlock = some sb then none else (val c).ownBlock) → (val c).ownBlock = some k ∧ k ≠ sb := by
    intro k hk
    split at hk
    · cases hk
    · rename_i hne
      exact ⟨hk.symm, fun e => hne (by rw [← hk, e])⟩
  have hub : u.ownBlock ≠ some b := by
    intro e
    rcases hat b e with h1 | h1
    · omega
    · exact h.ne c h1
  have hkeep : ∀ k, k < w1.heap.size → k ≠ b → ((val c).ownBlock ≠ some k ∨ k = sb) → w3.heap[k]? = w1.heap[k]? := by
    intro k hk hkb hkc
    refine (hg3.block k (by omega) (fun e => hkb (by injection e))).trans (hg.block k hk (fun e => ?_))
    obtain ⟨e1, e2⟩ := hrow k e
    rcases hkc with h1 | h1
    · exact h1 e1
    · exact e2 h1
  have hsb : w3.heap[sb]? = w1.heap[sb]? := hkeep sb h.slt h.sne (.inr rfl)
  refine ⟨⟨h.put hm (Nat.le_succ _) (by omega) (.inl ⟨hown.of_blocks fun g hg2 hl2 => hg3.block g hl2 (fun e => by injection e with e; exact hub (by rw [hg2, e])), hsbu⟩) hl (fun g _ hg2 => (hat g hg2).symm) (fun k hk => ?_) hne, fun k hk hn hks => ?_, fun k hk => ?_, ?_⟩, hsb⟩
  · have hE := h.each k
    refine hE.of fun g hg2 hl2 => ?_
    by_cases hgs : g = sb
    · rw [hgs]; exact hsb
    · exact hkeep g hl2 (fun e => h.ne k (by rw [hg2, e])) (.inl fun e => hk (h.apart k c g hgs hg2 e))
  · exact hkeep k hk (fun e => hn (.inl e)) (.inl fun e => hn (.inr ⟨c, e⟩))
  · rcases hk with rfl | ⟨key, hk⟩
    · exact .inl (.inl rfl)
    · by_cases e : key = c
      · subst e
        rw [updF_same] at hk
        rcases hat k hk with h1 | h1
        · exact .inr (.inr h1)
        · exact .inl (.inr ⟨key, h1⟩)
      · rw [updF_other _ _ e] at hk
        exact .inl (.inr ⟨key, hk⟩)
  · refine ((Below.refl _ _).grown hg hbase (fun k hk => ?_)).grown hg3 (by omega) (fun k hk => by injection hk with hk; subst hk; exact h.ge)
    exact ((h.each c).own k (hrow k hk.symm).1).1
theorem HdrM.stored {w w3 : World} {base b sb n pos hh : Nat} {val : List UInt8 → Value} {f : HdrF} {v : Value} (h : HdrM w base b sb n pos val f) (hbase : base ≤ w.heap.size) (hs : StrsV w base sb hh pos v) (hp : pos < hh) {c s : List UInt8} (hc : f c = [])
    (hm : MapIs w3 b (n + 1) (updF val c (.slice (some ⟨sb, pos, none⟩) 1 1))) (hg3 : (w.setCell ⟨sb, pos, none⟩ (.string ⟨s.toArray⟩)).grownBy w3 (some b)) :
    Putted w w3 base b sb (n + 1) (pos + 1) val (updF val c (.slice (some ⟨sb, pos, none⟩) 1 1)) (updF f c (f c ++ [s])) ∧ ∃ cur, Blk w3 sb cur 9 ∧ cur.size = hh := by
  rcases hs with ⟨h1, _⟩ | ⟨_, hsb, rfl, cur, hB, hcur⟩
  · omega
  have hsz3 := hg3.size
  rw [World.size_setCell] at hsz3
  have hslt := h.slt
  have hB2 := hB.set pos (.string ⟨s.toArray⟩)
  have hB3 : Blk w3 sb (cur.setIfInBounds pos (.string ⟨s.toArray⟩)) 9 := hB2.same (hg3.block sb (by rw [World.size_setCell]; exact hslt) (fun e => by injection e with e; exact h.sne e))
  have hkeep : ∀ k, k < w.heap.size → k ≠ b → k ≠ sb → w3.heap[k]? = w.heap[k]? := fun k hk hkb hks => (hg3.block k (by rw [World.size_setCell]; exact hk) (fun e => hkb (by injection e))).trans (Below.heap_setCell _ _ _ _ hks)
  have hcell : ∀ j, w3.cell? ⟨sb, j, none⟩ = (cur.setIfInBounds pos (.string ⟨s.toArray⟩))[j]? := fun j => hB3.cell j
  refine ⟨⟨h.put hm (Nat.le_succ _) (by omega) ?_ (by rw [hc]; simp) (fun g hgs hg => ?_) (fun k hk => ?_) (by simp), fun k hk hn hks => hkeep k hk (fun e => hn (.inl e)) hks, fun k hk => ?_, ?_⟩, _, hB3, by simp [hcur]⟩
  · refine .inr ⟨pos, s, rfl, by rw [hc]; rfl, Nat.lt_succ_self _, hsb, ?_⟩
    rw [hcell, Array.getElem?_setIfInBounds, if_pos rfl, if_pos (by omega)]
  · injection hg with hg
    exact absurd hg.symm hgs
  · rcases h.each k with ⟨ho, hne⟩ | ⟨j, s0, e1, e2, e3, e4, e5⟩
    · refine .inl ⟨ho.of_blocks fun g hg hl => hkeep g hl (fun e => h.ne k (by rw [hg, e])) (fun e => hne (by rw [hg, e])), hne⟩
    · refine .inr ⟨j, s0, e1, e2, by omega, e4, ?_⟩
      rw [hcell, Array.getElem?_setIfInBounds, if_neg (by omega), ← hB.cell]
      exact e5
  · rcases hk with rfl | ⟨key, hk⟩
    · exact .inl (.inl rfl)
    · by_cases e : key = c
      · subst e
        rw [updF_same] at hk
        injection hk with hk
        exact .inr (.inl hk.symm)
      · rw [updF_other _ _ e] at hk
        exact .inl (.inr ⟨key, hk⟩)
  · exact ((Below.refl _ _).setCell (p := ⟨sb, pos, none⟩) hsb _).grown hg3 (by rw [World.size_setCell]; exact hbase) (fun k hk => by injection hk with hk; subst hk; exact h.ge)
theorem StrsV.put {w w' : World} {base sb h pos : Nat} {v : Value} (hs : StrsV w base sb h pos v) (hb : w'.heap[sb]? = w.heap[sb]?) : StrsV w' base sb h pos v := hs.of fun _ => hb
/-- 'strs[1:]'. -/
theorem StrsV.tail {w w' : World} {base sb h pos : Nat} {v : Value} (hs : StrsV w base sb h pos v) (hp : pos < h) (hB : ∃ cur, Blk w' sb cur 9 ∧ cur.size = h) {A : Option Addr} (hA : pos + 1 < h → A = some ⟨sb, pos + 1, none⟩) : StrsV w' base sb h (pos + 1) (.slice A (h - pos - 1) (h - pos - 1)) := by
  rcases hs with ⟨h1, _⟩ | ⟨_, hsb, _, _⟩
  · omega
  by_cases e : pos + 1 = h
  · exact .inl ⟨e, A, by rw [show h - pos - 1 = 0 by omega]⟩
  · exact .inr ⟨by omega, hsb, by rw [hA (by omega), show h - (pos + 1) = h - pos - 1 by omega], hB⟩
theorem Ent.nil {w : World} {base sb pos c n : Nat} {l : List (List UInt8)} (h : Ent w base sb pos (.slice none n c) l) : l = [] := by
  obtain ⟨A, c', e, _, _, hs, _⟩ := h.form
  injection e with e1 e2 e3
  subst e1
  rcases l with _ | ⟨s, t⟩
  · rfl
  · obtain ⟨g, o, e, _⟩ := hs (by simp)
    cases e
end Go.Proofs.YtilhgjcjofobeaaDoor
namespace Go.Proofs.YtilhgjcjofobeaaDoor
open Go.RowKit Go.Maps

/-- The cells of a list of keys, each with its values. -/
def cellsE (E : List (List UInt8 × Value)) : List Value := E.flatMap fun e => [.string ⟨e.1.toArray⟩, e.2]
theorem cellsE_length (E : List (List UInt8 × Value)) : (cellsE E).length = E.length * 2 := by
  induction E with
  | nil => rfl
  | cons e t ih => simp [cellsE] at ih ⊢; omega
theorem cellsE_append (E F : List (List UInt8 × Value)) : cellsE (E ++ F) = cellsE E ++ cellsE F := by simp [cellsE]
theorem cellsE_get0 (E : List (List UInt8 × Value)) (i : Nat) (e : List UInt8 × Value) (h : E[i]? = some e) : (cellsE E)[i * 2]? = some (.string ⟨e.1.toArray⟩) ∧ (cellsE E)[i * 2 + 1]? = some e.2 := by
  induction E generalizing i with
  | nil => simp at h
  | cons a t ih =>
    have hc : cellsE (a :: t) = .string ⟨a.1.toArray⟩ :: a.2 :: cellsE t := by simp [cellsE]
    rcases i with _ | i
    · simp at h; subst h; rw [hc]; exact ⟨rfl, rfl⟩
    · simp at h
      obtain ⟨h1, h2⟩ := ih i h
      rw [hc, show (i + 1) * 2 = i * 2 + 1 + 1 by omega]
      exact ⟨by simpa using h1, by simpa using h2⟩
/-- A slice's address under which keys with their values lie. -/
def KR (w : World) (A : Option Addr) (E : List (List UInt8 × Value)) : Prop :=
  E ≠ [] → ∃ g, A = some ⟨g, 0, none⟩ ∧ ∀ i e, E[i]? = some e → w.cell? ⟨g, i * 2, none⟩ = some (.string ⟨e.1.toArray⟩) ∧ w.cell? ⟨g, i * 2 + 1, none⟩ = some e.2
theorem Tryd.infoH : (Tryd.prog.info? 51).map (fun i => (i.zero, i.size, i.bytes)) = some (some (.agg #[.string ⟨#[]⟩, .slice none 0 0]), 2, 40) := by kernel_rfl
/-- An owned list of keys with their values. -/
def OE (w : World) (base : Nat) (v : Value) (E : List (List UInt8 × Value)) : Prop := w.ownsRow base 51 2 v E.length (cellsE E)
theorem cellsE_one (E : List (List UInt8 × Value)) (hv : ∀ e ∈ E, ∃ A n c, e.2 = .slice A n c) : ∀ u ∈ cellsE E, u.oneCell' = true := by
  intro u hu
  simp only [cellsE, List.mem_flatMap] at hu
  obtain ⟨e, he, hu⟩ := hu
  obtain ⟨A, n, c, h⟩ := hv e he
  simp only [List.mem_cons, List.not_mem_nil, or_false] at hu
  rcases hu with rfl | rfl
  · rfl
  · rw [h]; rfl
theorem cellsE_take (E : List (List UInt8 × Value)) (i : Nat) : cellsE (E.take i) = (cellsE E).take (i * 2) := by
  induction E generalizing i with
  | nil => simp [cellsE]
  | cons e t ih =>
    rcases i with _ | i
    · simp [cellsE]
    · have h := ih i
      have hc : cellsE (e :: t) = .string ⟨e.1.toArray⟩ :: e.2 :: cellsE t := by simp [cellsE]
      have hc2 : cellsE (e :: t.take i) = .string ⟨e.1.toArray⟩ :: e.2 :: cellsE (t.take i) := by simp [cellsE]
      rw [List.take_succ_cons, hc, hc2, h, show (i + 1) * 2 = i * 2 + 1 + 1 by omega]
      simp
theorem cellsE_drop (E : List (List UInt8 × Value)) (i : Nat) : cellsE (E.drop i) = (cellsE E).drop (i * 2) := by
  induction E generalizing i with
  | nil => simp [cellsE]
  | cons e t ih =>
    rcases i with _ | i
    · simp
    · have h := ih i
      have hc : cellsE (e :: t) = .string ⟨e.1.toArray⟩ :: e.2 :: cellsE t := by simp [cellsE]
      rw [List.drop_succ_cons, hc, h, show (i + 1) * 2 = i * 2 + 1 + 1 by omega]
      simp
theorem OE.nil (w : World) (base : Nat) : OE w base (.slice none 0 0) [] := World.ownsRow_nil _ _ _ _
theorem OE.lt {w : World} {base : Nat} {v : Value} {E : List (List UInt8 × Value)} (h : OE w base v E) : ∀ k, v.ownBlock = some k → base ≤ k ∧ k < w.heap.size := World.ownsRow.lt h
theorem OE.of_blocks {w w' : World} {base : Nat} {v : Value} {E : List (List UInt8 × Value)} (h : OE w base v E) (hb : ∀ k, v.ownBlock = some k → k < w.heap.size → w'.heap[k]? = w.heap[k]?) : OE w' base v E := by
  have hlt := h.lt
  obtain ⟨h1, h2⟩ := h
  refine ⟨h1, ?_⟩
  rcases h2 with ⟨rfl, h0⟩ | ⟨g, cap, cur, rfl, hbg, hg, r⟩
  · exact .inl ⟨rfl, h0⟩
  · exact .inr ⟨g, cap, cur, rfl, hbg, by rw [hb g rfl (hlt g rfl).2]; exact hg, r⟩
/-- What an owned list of keys looks like. -/
theorem OE.form {w : World} {base : Nat} {v : Value} {E : List (List UInt8 × Value)} (h : OE w base v E) : ∃ A c, v = .slice A E.length c ∧ E.length ≤ c ∧ c ≤ 9223372036854775807 ∧ KR w A E ∧ (∀ g o s, A = some ⟨g, o, s⟩ → o = 0 ∧ s = none ∧ ∃ cur, Blk w g cur 51 ∧ cur.size = c * 2) := by
  obtain ⟨h1, h2⟩ := h
  rcases h2 with ⟨rfl, h0⟩ | ⟨g, cap, cur, rfl, hb, hg, hn, hm, hs, ht⟩
  · have : E = [] := List.eq_nil_of_length_eq_zero h0
    subst this
    exact ⟨none, 0, rfl, Nat.le_refl _, by decide, fun h => absurd rfl h, fun g o s h => by cases h⟩
  · refine ⟨some ⟨g, 0, none⟩, cap, rfl, hn, by unfold maxLen at hm; omega, fun _ => ⟨g, rfl, fun i e he => ?_⟩, fun g' o s e => ?_⟩
    · have hB : Blk w g cur 51 := hg
      have hi : i < E.length := (List.getElem?_eq_some_iff.1 he).1
      obtain ⟨c0, c1⟩ := cellsE_get0 E i e he
      rw [hB.cell, hB.cell]
      rw [← ht, List.getElem?_take, if_pos (by omega), Array.getElem?_toList] at c0 c1
      exact ⟨c0, c1⟩
    · injection e with e; injection e with e1 e2 e3; subst e1 e2 e3
      exact ⟨rfl, rfl, cur, hg, hs⟩
theorem cellsE_set (E : List (List UInt8 × Value)) (i : Nat) (c : List UInt8) (u0 u : Value) (h : E[i]? = some (c, u0)) : cellsE (E.set i (c, u)) = (cellsE E).set (i * 2 + 1) u := by
  induction E generalizing i with
  | nil => simp at h
  | cons e t ih =>
    have hc : cellsE (e :: t) = .string ⟨e.1.toArray⟩ :: e.2 :: cellsE t := by simp [cellsE]
    rcases i with _ | i
    · simp at h
      subst h
      rw [hc]
      simp [cellsE]
    · simp at h
      have h2 := ih i h
      have hc2 : cellsE (e :: t.set i (c, u)) = .string ⟨e.1.toArray⟩ :: e.2 :: cellsE (t.set i (c, u)) := by simp [cellsE]
      rw [List.set_cons_succ, hc, hc2, h2, show (i + 1) * 2 + 1 = i * 2 + 1 + 1 + 1 by omega]
      simp
theorem OE.set {w : World} {base g n cap : Nat} {E : List (List UInt8 × Value)} (h : OE w base (.slice (some ⟨g, 0, none⟩) n cap) E) {i : Nat} {c : List UInt8} {u0 : Value} (hi : E[i]? = some (c, u0)) (u : Value) :
    OE (w.setCell ⟨g, i * 2 + 1, none⟩ u) base (.slice (some ⟨g, 0, none⟩) n cap) (E.set i (c, u)) := by
  have hlt : i < E.length := (List.getElem?_eq_some_iff.1 hi).1
  obtain ⟨h1, h2⟩ := h
  unfold OE
  rw [List.length_set]
  refine ⟨by rw [cellsE_length, List.length_set], ?_⟩
  rcases h2 with ⟨h, _⟩ | ⟨g', cap', cur, h, hb, hg, hn, hm, hs, ht⟩
  · cases h
  · simp only [Value.slice.injEq, Option.some.injEq, Addr.mk.injEq, and_true] at h
    obtain ⟨rfl, rfl, rfl⟩ := h
    have hB : Blk w g cur 51 := hg
    refine .inr ⟨g, cap, _, rfl, hb, hB.set (i * 2 + 1) u, hn, hm, by simp [hs], ?_⟩
    rw [cellsE_set E i c u0 u hi, ← ht, Array.toList_setIfInBounds, List.take_set]
theorem run_append_E (ty : TypeId) (w : World) (base : Nat) (v : Value) (E : List (List UInt8 × Value)) (hown : OE w base v E) (g cp : Nat) (c : List UInt8) (u : Value) (hu : u.oneCell' = true) (h0 : w.cell? ⟨g, 0, none⟩ = some (.string ⟨c.toArray⟩)) (h1 : w.cell? ⟨g, 1, none⟩ = some u)
    (hlen : (E.length + 1) * 40 ≤ 140737488355328) (hbase : base ≤ w.heap.size) :
    ∃ v' w', (Builtin.append_ #[26, 26] ty #[v, .slice (some ⟨g, 0, none⟩) 1 cp]).run Tryd.prog w = .ok v' w' ∧ OE w' base v' (E ++ [(c, u)]) ∧ w.grownBy w' v.ownBlock ∧ (v'.ownBlock = v.ownBlock ∨ v'.ownBlock = some w.heap.size) := by
  obtain ⟨i0, hi, hz0, hz1, hz2⟩ := info_parts Tryd.infoH
  obtain ⟨v', w', e1, e2, e3, _, e5⟩ := run_append_own_at (P := Tryd.prog) w base 26 ty 51 i0 _ 2 40 Tryd.underlying26 hi hz0 hz1 hz2 rfl (by decide) v E.length (cellsE E) hown ⟨g, 0, none⟩ 1 cp [.string ⟨c.toArray⟩, u] rfl
    (fun j y hy => by
      rcases j with _ | _ | j
      · simp at hy; subst hy; exact h0
      · simp at hy; subst hy; exact h1
      · simp at hy) (fun y hy => by simp at hy; rcases hy with rfl | rfl; exact rfl; exact hu) (by unfold maxLen; omega) hlen hbase
  refine ⟨v', w', e1, ?_, e3, e5⟩
  unfold OE
  rw [cellsE_append, List.length_append]
  have : cellsE [(c, u)] = [.string ⟨c.toArray⟩, u] := by simp [cellsE]
  rw [this]
  exact e2
/-- A slice of strings, as a value, that reads as l and lies in a block of which P. -/
def SVal (w : World) (P : Nat → Prop) (v : Value) (l : List (List UInt8)) : Prop := ∃ A c, v = .slice A l.length c ∧ l.length ≤ c ∧ c ≤ 9223372036854775807 ∧ SL w A l ∧ ∀ g o, A = some ⟨g, o, none⟩ → l ≠ [] → P g
theorem SVal.nil (w : World) (P : Nat → Prop) : SVal w P (.slice none 0 0) [] := ⟨none, 0, rfl, Nat.le_refl _, by decide, SL.nil _ _, fun _ _ h => by cases h⟩
theorem SVal.one {w : World} {P : Nat → Prop} {v : Value} {l : List (List UInt8)} (h : SVal w P v l) : v.oneCell' = true := by
  obtain ⟨A, c, rfl, _⟩ := h
  rfl
theorem SL.of_block {w w' : World} {A : Option Addr} {ls : List (List UInt8)} (h : SL w A ls) (hb : ∀ g o, A = some ⟨g, o, none⟩ → ls ≠ [] → g < w.heap.size → w'.heap[g]? = w.heap[g]?) : SL w' A ls := by
  intro hne
  obtain ⟨g, o, he, hx⟩ := h hne
  exact ⟨g, o, he, fun i u hu => (World.cell?_of_block (w := w) (a := ⟨g, o + i, none⟩) (hb g o he hne (h.lt g o he hne))).trans (hx i u hu)⟩
theorem SVal.of {w w' : World} {P Q : Nat → Prop} {v : Value} {l : List (List UInt8)} (h : SVal w P v l) (hb : ∀ g, P g → g < w.heap.size → w'.heap[g]? = w.heap[g]?) (hq : ∀ g, P g → g < w.heap.size → Q g) : SVal w' Q v l := by
  obtain ⟨A, c, h1, h2, h3, h4, h5⟩ := h
  exact ⟨A, c, h1, h2, h3, h4.of_block fun g o e hne hl => hb g (h5 g o e hne) hl, fun g o e hne => hq g (h5 g o e hne) (h4.lt g o e hne)⟩
end Go.Proofs.YtilhgjcjofobeaaDoor
namespace Go.Proofs.YtilhgjcjofobeaaDoor
open Go.RowKit Go.Maps

/-- A key with a slice. -/
abbrev HX := List UInt8 × Option Addr × Nat × Nat
def encH (x : HX) : List Value := [.string ⟨x.1.toArray⟩, .slice x.2.1 x.2.2.1 x.2.2.2]
def cmpH (x y : HX) : Int := if x.1 < y.1 then -1 else 1
theorem ltH (x y : HX) : ltOf cmpH x y = decide (x.1 < y.1) := by
  unfold ltOf cmpH
  by_cases h : x.1 < y.1
  · rw [if_pos h, decide_eq_true h]; rfl
  · rw [if_neg h, decide_eq_false h]; rfl
theorem swoH : Go.Sort.SWO (ltOf cmpH) where
  irrefl x := by rw [ltH]; exact decide_eq_false (List.lt_irrefl _)
  trans x y z h1 h2 := by
    rw [ltH] at *
    exact decide_eq_true (List.lt_trans (of_decide_eq_true h1) (of_decide_eq_true h2))
  ntrans x y z h1 h2 := by
    rw [ltH] at *
    have a := List.not_lt.1 (of_decide_eq_false h1)
    have b := List.not_lt.1 (of_decide_eq_false h2)
    exact decide_eq_false (List.not_lt.2 (List.le_trans b a))
set_option maxRecDepth 200000 in
theorem cmp_any (a b : List UInt8) (u v : Value) (W : World) :
    Calls Tryd.prog 20 #[.agg #[.string ⟨a.toArray⟩, u], .agg #[.string ⟨b.toArray⟩, v]] W fun e w' => e = .returned (.int .i64 (if a < b then -1 else 1)) ∧ ∃ q os', w' = Go.Sort.grow (W.drewN q) os' := by
  have hl := bytesLess_eq a b
  by_cases h : a < b
  · rw [decide_eq_true h] at hl
    rw [if_pos h]
    clear h
    go_enter Tryd.func20, Tryd.ntmps20
    go_wp2
    go_ret
    exact ⟨rfl, 0, _, by rw [Go.Sort.alloc_eq_grow, Go.Sort.alloc_eq_grow, Go.Sort.grow_grow]; rfl⟩
  · rw [decide_eq_false h] at hl
    rw [if_neg h]
    clear h
    go_enter Tryd.func20, Tryd.ntmps20
    go_wp2
    go_ret
    exact ⟨rfl, 0, _, by rw [Go.Sort.alloc_eq_grow, Go.Sort.alloc_eq_grow, Go.Sort.grow_grow]; rfl⟩
theorem grownBy_sortH {w : World} {g n : Nat} {os : Array Obj} (d : Array HX) : w.grownBy (sortWorldK encH 2 w g 0 n d os) (some g) := by
  refine ⟨rfl, rfl, rfl, by simp [sortWorldK, Go.Sort.putRowK], fun k hk hne => ?_⟩
  unfold sortWorldK
  rw [Go.Sort.heap_grow_old _ _ (by simpa [Go.Sort.putRowK] using hk)]
  have : g ≠ k := fun e => hne (by rw [e])
  simp [Go.Sort.putRowK, Go.Sort.putRow, Go.Sort.mapBlock, Go.Sort.ahead, Array.getElem?_modify, this]
/-- As keys with values. -/
def unH (x : HX) : List UInt8 × Value := (x.1, .slice x.2.1 x.2.2.1 x.2.2.2)
theorem cellsE_encH (X : List HX) (t : Nat) (h : t < X.length * 2) : (cellsE (X.map unH))[t]? = some (encH X.toArray[t / 2]!)[t % 2]! := by
  have hi : t / 2 < X.length := by omega
  have hx : (X.map unH)[t / 2]? = some (unH X[t / 2]) := by rw [List.getElem?_map, List.getElem?_eq_getElem hi]; rfl
  obtain ⟨c0, c1⟩ := cellsE_get0 _ _ _ hx
  have he : X.toArray[t / 2]! = X[t / 2] := by simp [hi]
  rw [he]
  rcases Nat.mod_two_eq_zero_or_one t with h0 | h0
  · rw [show t / 2 * 2 = t by omega] at c0
    rw [c0, h0]
    rfl
  · rw [show t / 2 * 2 + 1 = t by omega] at c1
    rw [c1, h0]
    rfl
theorem OE.holds {w : World} {base g cap : Nat} {X : List HX} (h : OE w base (.slice (some ⟨g, 0, none⟩) X.length cap) (X.map unH)) : Go.Sort.HoldsK encH 2 w g 0 X.toArray := by
  obtain ⟨h1, h2⟩ := h
  rcases h2 with ⟨h2, _⟩ | ⟨g', cap', cur, h2, hb, hg, hn, hm, hs, ht⟩
  · cases h2
  · simp only [Value.slice.injEq, Option.some.injEq, Addr.mk.injEq, and_true] at h2
    obtain ⟨rfl, _, rfl⟩ := h2
    have hB : Blk w g cur 51 := hg
    intro j hj
    rw [Go.Sort.size_flatK] at hj
    have hj2 : j < X.length * 2 := by simpa using hj
    rw [Nat.zero_add]
    refine ⟨?_, hB.free _⟩
    rw [hB.cell, Go.Sort.get_flatK _ _ _ _ hj]
    have := cellsE_encH X j hj2
    rw [id, ← this, ← ht, List.getElem?_take, if_pos (by simpa using hj2)]
    simp
theorem KR.holds {w : World} {g : Nat} {X : List HX} (h : Go.Sort.HoldsK encH 2 w g 0 X.toArray) : KR w (some ⟨g, 0, none⟩) (X.map unH) := by
  intro _
  refine ⟨g, rfl, fun i e he => ?_⟩
  rw [List.getElem?_map] at he
  rcases hx : X[i]? with _ | x
  · rw [hx] at he; cases he
  · rw [hx] at he
    injection he with he
    subst he
    obtain ⟨hi, hx⟩ := List.getElem?_eq_some_iff.1 hx
    have c0 := (h.cell (i := i) (c := 0) (by simpa using hi) (by decide)).1
    have c1 := (h.cell (i := i) (c := 1) (by simpa using hi) (by decide)).1
    have e1 : X.toArray[i]! = x := by simp [hi, hx]
    rw [e1] at c0 c1
    rw [Nat.zero_add] at c0 c1
    exact ⟨c0, c1⟩
set_option maxRecDepth 200000 in
theorem sortH_any {w : World} {base g cap : Nat} {X : List HX} (hown : OE w base (.slice (some ⟨g, 0, none⟩) X.length cap) (X.map unH)) (hlen : X.length ≤ 1000000) :
    Calls Tryd.prog 19 #[.slice (some ⟨g, 0, none⟩) X.length cap, .func (.func 20) #[] #[]] w fun e w' =>
      e = .returned (.tuple #[]) ∧ ∃ X' : List HX, X'.Perm X ∧ X'.Pairwise (fun x y => ¬ y.1 < x.1) ∧ KR w' (some ⟨g, 0, none⟩) (X'.map unH) ∧ w.grownBy w' (some g) := by
  have eg : ∀ args w, (callFunc 20 args).run Tryd.prog w = .ok (.enter 20 args) w := enters_of Tryd.func20 (by kernel_rfl) rfl
  have hlt : g < w.heap.size := (hown.lt g rfl).2
  have h := AnyQ.slices_SortFunc Tryd.sortHdr 2 Tryd.isAgg51 Tryd.sizeOf51 encH (fun _ => rfl) (fun x v hv => by simp [encH] at hv; rcases hv with rfl | rfl <;> rfl) cmpH swoH 20 #[] g 0 cap X.toArray w eg
    (fun _ _ _ _ x y => cmp_any x.1 y.1 _ _ _) hown.holds hlt (by simp; omega)
  refine Calls.mono (show Calls Tryd.prog 19 #[.slice (some ⟨g, 0, none⟩) X.length cap, .func (.func 20) #[] #[]] w _ from h) fun e w' ⟨he, d', n, os, hp, hs, hw⟩ => ⟨he, d'.toList, ?_, ?_, ?_, ?_⟩
  · obtain ⟨h1, _, h3⟩ := hp
    have e1 : d'.extract 0 X.toArray.size = d' := by rw [← h1]; simp
    have e2 : X.toArray.extract 0 X.toArray.size = X.toArray := by simp
    rw [e1, e2] at h3
    simpa using h3
  · rw [List.pairwise_iff_getElem]
    intro i j hi hj hij
    have hsz : d'.size = X.toArray.size := hp.1
    have hi' : i < d'.size := by simpa using hi
    have hj' : j < d'.size := by simpa using hj
    have := hs i j (Nat.zero_le _) hij (by omega)
    rw [ltH, getElem!_pos d' i hi', getElem!_pos d' j hj'] at this
    simpa using this
  · refine KR.holds ?_
    rw [hw]
    have := holdsK_sortWorldK_c encH 2 w g 0 X.toArray d' n os hown.holds hlt hp.1
    simpa using this
  · rw [hw]
    exact grownBy_sortH d'
/-- Any list, an empty one too. -/
theorem sortAll_any {w : World} {base cap : Nat} {A : Option Addr} {X : List HX} (hown : OE w base (.slice A X.length cap) (X.map unH)) (hlen : X.length ≤ 1000000) :
    Calls Tryd.prog 19 #[.slice A X.length cap, .func (.func 20) #[] #[]] w fun e w' =>
      e = .returned (.tuple #[]) ∧ ∃ X' : List HX, X'.Perm X ∧ X'.Pairwise (fun x y => ¬ y.1 < x.1) ∧ KR w' A (X'.map unH) ∧ w.grownBy w' (Value.slice A X.length cap).ownBlock := by
  by_cases he : X = []
  · subst he
    refine Calls.mono (AnyF.slices_SortFunc_none Tryd.sortHdr A cap _ w) fun e w' ⟨h1, h2⟩ => ⟨h1, [], List.Perm.refl _, List.Pairwise.nil, fun h => absurd rfl h, ?_⟩
    subst h2
    exact ⟨rfl, rfl, rfl, Nat.le_refl _, fun _ _ _ => rfl⟩
  · obtain ⟨A', c', e1, _, _, hkr, hsh⟩ := hown.form
    injection e1 with e1 _ _
    subst e1
    obtain ⟨g, rfl, _⟩ := hkr (by simpa using he)
    exact sortH_any hown hlen
/-- Keys with slices, as such. -/
theorem asH (E : List (List UInt8 × Value)) (h : ∀ e ∈ E, ∃ A n c, e.2 = .slice A n c) : ∃ X : List HX, E = X.map unH := by
  induction E with
  | nil => exact ⟨[], rfl⟩
  | cons e t ih =>
    obtain ⟨X, hX⟩ := ih (fun x hx => h x (List.mem_cons_of_mem _ hx))
    obtain ⟨A, n, c, he⟩ := h e (List.mem_cons_self ..)
    refine ⟨(e.1, A, n, c) :: X, ?_⟩
    rw [hX, List.map_cons]
    congr 1
    show e = (e.1, .slice A n c)
    rw [← he]
end Go.Proofs.YtilhgjcjofobeaaDoor
namespace Go.Proofs.YtilhgjcjofobeaaDoor
open Go.RowKit Go.Maps

theorem OS.litE (w : World) (base : Nat) (hb : base ≤ w.heap.size) : OS (w.alloc (.cells #[] 9)) base (.slice (some ⟨w.heap.size, 0, none⟩) 0 0) [] :=
  World.ownsRow_lit (base := base) (e := 9) (size := 1) w #[] 0 hb (by unfold maxLen; omega) rfl
structure HLs (b r n : Nat) (val : List UInt8 → Value) (f : HdrF) (w2 : World) (u8 : Value) (wr : World) (E : List (List UInt8 × Value)) (left : List UInt8 → Bool) (cnt : Nat) : Prop where
  map : MapR wr b r n val left cnt
  own : OE wr (r + 1) u8 E
  vals : ∀ e ∈ E, SVal wr (fun g => r + 1 ≤ g ∧ u8.ownBlock ≠ some g) e.2 (f e.1)
  nd : (E.map (·.1)).Nodup
  keys : ∀ k, k ∈ E.map (·.1) ↔ (val k ≠ .slice none 0 0 ∧ left k = false)
  ne : ∀ k, left k = true → val k ≠ .slice none 0 0
  len : E.length + cnt ≤ n
  below : Below r w2 wr
  size : r + 1 ≤ wr.heap.size
  lt : b < r
theorem HLs.lay {b r n cnt cnt1 : Nat} {val : List UInt8 → Value} {f : HdrF} {w2 wr w1 : World} {u8 : Value} {E : List (List UInt8 × Value)} {left : List UInt8 → Bool} (h : HLs b r n val f w2 u8 wr E left cnt) (hn : n ≤ 1000000) {k : List UInt8} (hk : left k = true)
    (hm1 : MapR w1 b r n val (fun z => left z && !(z == k)) cnt1) (hc : cnt1 < cnt) (hg1 : wr.grownBy w1 (some r)) (hs1 : w1.heap.size = wr.heap.size) {A5 : Option Addr} {c5 : Nat} (hsl : SL w1 A5 (f k)) (hlen : (f k).length ≤ 1000000) :
    ∃ (u2 : Value) (wb : World) (u3 : Value) (wd : World), (Builtin.append_ #[34, 34] 34 #[.slice (some ⟨w1.heap.size, 0, none⟩) 0 0, .slice A5 (f k).length c5]).run Tryd.prog (w1.alloc (.cells #[] 9)) = .ok u2 wb ∧
      (Builtin.append_ #[26, 26] 26 #[u8, .slice (some ⟨wb.heap.size, 0, none⟩) 1 1]).run Tryd.prog (wb.alloc (.cells #[.string ⟨k.toArray⟩, u2] 51)) = .ok u3 wd ∧
      HLs b r n val f w2 u3 wd (E ++ [(k, u2)]) (fun z => left z && !(z == k)) cnt1 := by
  have hsz := h.size
  have hbr := h.lt
  obtain ⟨u2, wb, hr1, hob, hgb, hu2⟩ := run_append_S 34 34 Tryd.underlying34 (w1.alloc (.cells #[] 9)) (r + 1) (.slice (some ⟨w1.heap.size, 0, none⟩) 0 0) [] (OS.litE w1 (r + 1) (by omega)) A5 (f k) c5 (hsl.below ((Below.refl _ _).alloc (Nat.le_refl _) _)) (by simp; omega) (by simp; omega)
  rw [List.nil_append] at hob
  have hu2' : u2.ownBlock = some w1.heap.size ∨ u2.ownBlock = some (w1.heap.size + 1) := by
    rcases hu2 with e | e
    · exact .inl e
    · rw [World.size_alloc] at e; exact .inr e
  replace hgb : (w1.alloc (.cells #[] 9)).grownBy wb (some w1.heap.size) := hgb
  have hszb := hgb.size
  rw [World.size_alloc] at hszb
  -- a block of wr other than r, and other than out's own
  have b1 : ∀ g, g < wr.heap.size → g ≠ r → wb.heap[g]? = wr.heap[g]? := fun g hg hgr =>
    (hgb.block g (by rw [World.size_alloc]; omega) (fun e => by injection e with e; omega)).trans ((heap_alloc_old w1 _ (by omega)).trans (hg1.block g hg (fun e => hgr (by injection e))))
  have bw1 : ∀ g, g < w1.heap.size → wb.heap[g]? = w1.heap[g]? := fun g hg =>
    (hgb.block g (by rw [World.size_alloc]; omega) (fun e => by injection e with e; omega)).trans (heap_alloc_old w1 _ hg)
  have hlt8 := h.own.lt
  have hownb : OE wb (r + 1) u8 E := h.own.of_blocks (fun g hg hl => b1 g hl (by have := (hlt8 g hg).1; omega))
  have hownc : OE (wb.alloc (.cells #[.string ⟨k.toArray⟩, u2] 51)) (r + 1) u8 E := hownb.of_blocks (fun g _ hl => heap_alloc_old wb _ hl)
  obtain ⟨A2, c2, hu2f, hu2l, hu2c, hu2s⟩ := hob.form
  have hone : u2.oneCell' = true := by rw [hu2f]; rfl
  have hBc : Blk (wb.alloc (.cells #[.string ⟨k.toArray⟩, u2] 51)) wb.heap.size #[.string ⟨k.toArray⟩, u2] 51 := Blk.new _ _ _
  obtain ⟨u3, wd, hr2, hod, hgd, hu3⟩ := run_append_E 26 (wb.alloc (.cells #[.string ⟨k.toArray⟩, u2] 51)) (r + 1) u8 E hownc wb.heap.size 1 k u2 hone (hBc.cell 0) (hBc.cell 1) (by have := h.len; omega) (by rw [World.size_alloc]; omega)
  have hszd := hgd.size
  rw [World.size_alloc] at hszd hu3
  have bd : ∀ g, g < wb.heap.size → u8.ownBlock ≠ some g → wd.heap[g]? = wb.heap[g]? := fun g hg hne => (hgd.block g (by rw [World.size_alloc]; omega) (fun e => hne e.symm)).trans (heap_alloc_old wb _ hg)
  have h8 : ∀ g, u8.ownBlock = some g → r + 1 ≤ g ∧ g < wr.heap.size := fun g hg => hlt8 g hg
  have h3 : ∀ g, g < wb.heap.size → u8.ownBlock ≠ some g → u3.ownBlock ≠ some g := fun g hg hne e => by
    rcases hu3 with e3 | e3
    · exact hne (by rw [← e3]; exact e)
    · rw [e3] at e; injection e with e; omega
  have hr8 : u8.ownBlock ≠ some r := fun e => by have := h8 r e; omega
  have hb8 : u8.ownBlock ≠ some b := fun e => by have := h8 b e; omega
  have hkn : k ∉ E.map (·.1) := fun hm => by have := ((h.keys k).1 hm).2; rw [hk] at this; cases this
  refine ⟨u2, wb, u3, wd, hr1, hr2, ⟨hm1.of ((bd b (by omega) hb8).trans (bw1 b (by omega))) ((bd r (by omega) hr8).trans (bw1 r (by omega))), hod, fun e he => ?_, ?_, fun k' => ?_, fun k' hk' => ?_, ?_, ?_, by omega, hbr⟩⟩
  · rcases List.mem_append.1 he with he | he
    · exact (h.vals e he).of (fun g hg hl => (bd g (by omega) hg.2).trans (b1 g hl (by omega))) (fun g hg hl => ⟨hg.1, h3 g (by omega) hg.2⟩)
    · simp only [List.mem_singleton] at he
      subst he
      refine ⟨A2, c2, hu2f, hu2l, hu2c, hu2s.of_block (fun g o e _ hl => ?_), fun g o e _ => ?_⟩
      · have hg2 : u2.ownBlock = some g := by rw [hu2f, e]; rfl
        exact bd g hl (fun e8 => by have := h8 g e8; rcases hu2' with e2 | e2 <;> (rw [e2] at hg2; injection hg2 with hg2; omega))
      · have hg2 : u2.ownBlock = some g := by rw [hu2f, e]; rfl
        have hgl := hob.lt g hg2
        exact ⟨hgl.1, h3 g hgl.2 (fun e8 => by have := h8 g e8; rcases hu2' with e2 | e2 <;> (rw [e2] at hg2; injection hg2 with hg2; omega))⟩
  · rw [List.map_append, List.nodup_append]
    refine ⟨h.nd, by simp, fun a ha c hc => ?_⟩
    simp at hc
    subst hc
    exact fun e => hkn (e ▸ ha)
  · rw [List.map_append, List.mem_append, h.keys k']
    simp only [List.map_cons, List.map_nil, List.mem_singleton, Bool.and_eq_false_iff, Bool.not_eq_false', beq_iff_eq]
    constructor
    · rintro (⟨h1, h2⟩ | rfl)
      · exact ⟨h1, .inl h2⟩
      · exact ⟨h.ne _ hk, .inr rfl⟩
    · rintro ⟨h1, h2 | h2⟩
      · exact .inl ⟨h1, h2⟩
      · exact .inr h2
  · have : left k' = true := by
      simp only [Bool.and_eq_true] at hk'
      exact hk'.1
    exact h.ne k' this
  · have := h.len
    simp
    omega
  · refine h.below.trans ⟨?_, ?_, ?_, by omega, fun g hg => (bd g (by omega) (fun e => by have := h8 g e; omega)).trans (b1 g (by omega) (by omega))⟩
    · exact hgd.os.trans (hgb.os.trans hg1.os)
    · exact hgd.tape.trans (hgb.tape.trans hg1.tape)
    · exact hgd.output.trans (hgb.output.trans hg1.output)
end Go.Proofs.YtilhgjcjofobeaaDoor
namespace Go.Proofs.YtilhgjcjofobeaaDoor
open Go.RowKit Go.Maps

theorem Tb.ge {K : Und} {base t p bb : Nat} {E : Nat → Addr} {gs : List Nat} {v : Value} {w : World} {S : List UInt8} (h : Tb K base E gs t p bb v w S) : ∀ k, SC K t p bb v k → base ≤ k := by
  intro k hk
  have hl := h.tp.lay
  rcases hk with (rfl | rfl | hk) | rfl | hk
  · exact hl.bp
  · exact hl.bb_
  · exact hl.bo k hk
  · exact h.tp.1
  · obtain ⟨acc, ho⟩ := h.own
    exact (ho.lt k hk).1
theorem Tb.lt {K : Und} {base t p bb : Nat} {E : Nat → Addr} {gs : List Nat} {v : Value} {w : World} {S : List UInt8} (h : Tb K base E gs t p bb v w S) : ∀ k, SC K t p bb v k → k < w.heap.size := by
  intro k hk
  rcases hk with hk | rfl | hk
  · exact Rs.S_lt h.tp.2.2.2 k hk
  · exact h.tp.2.2.1.lt
  · obtain ⟨acc, ho⟩ := h.own
    exact (ho.lt k hk).2
theorem Tb.frame {K : Und} {base t p bb : Nat} {E : Nat → Addr} {gs : List Nat} {v : Value} {w w' : World} {S : List UInt8} (h : Tb K base E gs t p bb v w S) (hc : Chg (SC K t p bb v) w w') : Below base w w' :=
  hc.below (fun k hk e => by have := h.ge k e; omega) h.tp.size
theorem Tb.other {K : Und} {base t p bb : Nat} {E : Nat → Addr} {gs : List Nat} {v : Value} {w w' : World} {S : List UInt8} (h : Tb K base E gs t p bb v w S) (hB : Below base w w') (hb : ∀ k, SC K t p bb v k → w'.heap[k]? = w.heap[k]?) : Tb K base E gs t p bb v w' S := by
  obtain ⟨acc, ho⟩ := h.own
  exact ⟨⟨h.tp.1, h.tp.2.1, h.tp.2.2.1.same (hb t (.inr (.inl rfl))), Rs.blocks h.tp.2.2.2 (fun k hk => hb k (.inl hk)) hB⟩, ⟨acc, ho.of_blocks (fun k hk _ => hb k (.inr (.inr hk)))⟩, h.out⟩
/-- The reader and the header. -/
structure HdS (K : Und) (base : Nat) (E : Nat → Addr) (gs : List Nat) (t p bb b sb hh n pos : Nat) (v : Value) (val : List UInt8 → Value) (f : HdrF) (u : Value) (w : World) (S : List UInt8) : Prop where
  tb : Tb K base E gs t p bb v w S
  hdr : HdrM w base b sb n pos val f
  strs : StrsV w base sb hh pos u
  dis : ∀ k, SC K t p bb v k → ¬ HB b val k ∧ k ≠ sb
section
variable {K : Und} {base : Nat} {E : Nat → Addr} {gs : List Nat} {t p bb b sb hh n pos : Nat} {v v' : Value} {val : List UInt8 → Value} {f : HdrF} {u : Value} {w w2 w0 : World} {S R : List UInt8}
theorem HdS.lo (h : HdS K base E gs t p bb b sb hh n pos v val f u w S) : base ≤ w.heap.size := h.tb.tp.size
theorem HdS.other (h : HdS K base E gs t p bb b sb hh n pos v val f u w S) (hs : w.heap.size ≤ w2.heap.size) (ht : Tb K base E gs t p bb v' w2 R) (hv : ∀ k, SC K t p bb v' k → SC K t p bb v k ∨ w.heap.size ≤ k) (hb : ∀ k, k < w.heap.size → HB b val k ∨ k = sb → w2.heap[k]? = w.heap[k]?) :
    HdS K base E gs t p bb b sb hh n pos v' val f u w2 R := by
  refine ⟨ht, h.hdr.of hs (fun k hk => hb k (h.hdr.lt k hk).2 (.inl hk)), h.strs.put (hb sb h.hdr.slt (.inr rfl)), fun k hk => ?_⟩
  rcases hv k hk with h1 | h1
  · exact h.dis k h1
  · refine ⟨fun e => ?_, fun e => ?_⟩
    · have := (h.hdr.lt k e).2; omega
    · have := h.hdr.slt; omega
theorem HdS.read (h : HdS K base E gs t p bb b sb hh n pos v val f u w S) (hC : Chg (SC K t p bb v) w w2) (hv : Turned v v' w) (ht : Tb K base E gs t p bb v' w2 R) : HdS K base E gs t p bb b sb hh n pos v' val f u w2 R := by
  refine h.other hC.size ht (fun k hk => ?_) (fun k hk hb => hC.block k hk (fun e => ?_))
  · rcases hk with hk | hk | hk
    · exact .inl (.inl hk)
    · exact .inl (.inr (.inl hk))
    · rcases hv with hv | ⟨j, hv, hj⟩
      · rw [hv] at hk; exact .inl (.inr (.inr hk))
      · rw [hv] at hk; injection hk with hk; exact .inr (by omega)
  · obtain ⟨h1, h2⟩ := h.dis k e
    rcases hb with hb | hb
    · exact h1 hb
    · exact h2 hb
theorem HdS.below (h : HdS K base E gs t p bb b sb hh n pos v val f u w S) (hb : Below w.heap.size w w2) : HdS K base E gs t p bb b sb hh n pos v val f u w2 S :=
  h.other hb.size (h.tb.below hb) (fun _ hk => .inl hk) (fun k hk _ => hb.block k hk)
theorem HdS.only (h : HdS K base E gs t p bb b sb hh n pos v val f u w S) (hb : Only w w2) : HdS K base E gs t p bb b sb hh n pos v val f u w2 S :=
  h.below ⟨hb.os, hb.tape, hb.output, by rw [hb.heap]; exact Nat.le_refl _, fun k _ => by rw [hb.heap]⟩
theorem HdS.wrote (h : HdS K base E gs t p bb b sb hh n pos v val f u w S) {g lo hi : Nat} (hw : Wrote g lo hi w w2) (ht : Tb K base E gs t p bb v w2 S) (hg : ¬ HB b val g ∧ g ≠ sb) : HdS K base E gs t p bb b sb hh n pos v val f u w2 S :=
  h.other (Nat.le_of_eq hw.size.symm) ht (fun _ hk => .inl hk) (fun k _ hk => hw.block k (fun e => by subst e; rcases hk with hk | hk; exact hg.1 hk; exact hg.2 hk))
theorem HdS.put (h : HdS K base E gs t p bb b sb hh n pos v val f u w S) {n' pos' : Nat} {val' : List UInt8 → Value} {f' : HdrF} {u' : Value} (hp : Putted w w2 base b sb n' pos' val val' f') (hu : StrsV w2 base sb hh pos' u') : HdS K base E gs t p bb b sb hh n' pos' v val' f' u' w2 S := by
  refine ⟨h.tb.other hp.frame (fun k hk => hp.keep k (h.tb.lt k hk) (h.dis k hk).1 (h.dis k hk).2), hp.hdr, hu, fun k hk => ⟨fun e => ?_, (h.dis k hk).2⟩⟩
  rcases hp.more k e with h1 | h1 | h1
  · exact (h.dis k hk).1 h1
  · exact (h.dis k hk).2 h1
  · have := h.tb.lt k hk; omega
end
theorem Loc.below {K : Und} {base p bb n : Nat} {E : Nat → Addr} {gs : List Nat} {v v' : Value} {w w' w2 : World} {R : List UInt8} {a : Addr} (h : Loc K base E gs p bb v v' w w' R (some a) n) (ha : a.block < w'.heap.size) (hb : Below w'.heap.size w' w2) : Loc K base E gs p bb v v' w w2 R (some a) n := by
  obtain ⟨B, U, r, z, lb, lr, hR, hBU, hx⟩ := h
  refine ⟨B, U, r, z, lb, lr, hR.below hb hR.S_lt, hBU, fun a' e => ?_⟩
  injection e with e
  subst e
  obtain ⟨h1, h2⟩ := hx a rfl
  refine ⟨h1, ?_⟩
  rcases h2 with h2 | h2 | h2
  · exact .inl h2
  · exact .inr (.inl ⟨h2.1, h2.2.1, fun i => (hb.frozen (p := ⟨a.block, i, none⟩) ha).trans (h2.2.2 i)⟩)
  · exact .inr (.inr h2)
theorem RB.bytesAt {w : World} {A : Option Addr} {l : List UInt8} (h : RB w A l) : Lib.BytesAt w A l.length l := fun h0 => by
  obtain ⟨g, o, rfl, hx⟩ := h (List.length_pos_iff.1 h0)
  refine ⟨g, o, rfl, fun i hi => ?_⟩
  rw [hx i l[i] (List.getElem?_eq_getElem hi), List.getD_eq_getElem?_getD, List.getElem?_eq_getElem hi]
  rfl
theorem valOf_drop (v : List UInt8) : v.drop (v.length - (valOf v).length) = valOf v := by
  have hs : valOf v <:+ v := List.dropWhile_suffix _
  exact (List.suffix_iff_eq_drop.1 hs).symm
theorem trimLeft_any {w : World} {A : Option Addr} {c : Nat} {v : List UInt8} (hnc : v.length ≤ c) (hc : c ≤ 9223372036854775807) (hr : RB w A v) :
    Calls Tryd.prog 52 #[.slice A v.length c, .string ⟨#[32, 9]⟩] w fun e w' => (∃ A3 c3, e = .returned (.slice A3 (valOf v).length c3) ∧ RB w' A3 (valOf v)) ∧ Below w.heap.size w w' := by
  have h27 : (Tryd.prog.info? 123).map (fun i => (i.zero, i.size)) = some (some (.agg (Array.replicate 256 (.bool false))), 256) := by kernel_rfl
  have h := Any.bytes_TrimLeft_ascii (P := Tryd.prog) Tryd.trimL (zero_of_info h27).1 (zero_of_info h27).2 A v.length c v ⟨#[32, 9]⟩ w rfl hnc hc hr.bytesAt (by decide) (fun j b hb => by
    have : b ∈ [(32 : UInt8), 9] := List.mem_of_getElem? hb
    simp at this
    rcases this with rfl | rfl <;> decide)
  refine Calls.mono (show Calls Tryd.prog 52 _ _ _ from h) fun e w' ⟨he, hb⟩ => ⟨?_, hb⟩
  have hle := valOf_le v
  have hd := valOf_drop v
  have e1 : Lib.trimLeftS v (ByteArray.mk #[32, 9]).data.toList = valOf v := rfl
  rw [e1] at he
  generalize valOf v = x at hle hd he ⊢
  unfold Lib.leftV at he
  by_cases h0 : x.length = 0
  · rw [if_pos (by omega)] at he
    have hx : x = [] := List.eq_nil_of_length_eq_zero h0
    subst hx
    exact ⟨none, 0, he, RB.nil _ _⟩
  · rw [if_neg (by omega)] at he
    unfold Lib.fromV at he
    obtain ⟨g, o, rfl, _⟩ := id hr (by rintro rfl; exact h0 (Nat.le_zero.1 hle))
    rw [if_neg (by omega), show v.length - (v.length - x.length) = x.length by omega] at he
    have h2 := (hr.below hb).drop (v.length - x.length)
    rw [hd] at h2
    refine ⟨_, _, he, ?_⟩
    simp only [Option.map_some]
    rw [addr_add]
    exact h2
end Go.Proofs.YtilhgjcjofobeaaDoor
