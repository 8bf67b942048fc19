/- slices.SortFunc at keys with their values. | impl.Headers: the list that is made of the map. No walk. | The state of readMIMEHeader: the reader and the header, apart from each other. -/
import Derived.Test.YtilhgjcjofobeaaDoorZCb
import Derived.Test.YtilhgjcjofobeaaDoorShelfT
import Derived.Test.YtilhgjcjofobeaaDoorZCa
import Derived.Test.YtilhgjcjofobeaaDoorZC8
import Derived.Test.YtilhgjcjofobeaaDoorShelfL
namespace Go.Proofs.YtilhgjcjofobeaaDoor
open Go.RowKit Go.Maps

/-- A key with a slice. -/
abbrev HX := List UInt8 × Option Addr × Nat × Nat
def encH (x : HX) : List Value := [.string ⟨x.1.toArray⟩, .slice x.2.1 x.2.2.1 x.2.2.2]
def cmpH (x y : HX) : Int := if x.1 < y.1 then -1 else 1
theorem ltH (x y : HX) : ltOf cmpH x y = decide (x.1 < y.1) := by
  unfold ltOf cmpH
  by_cases h : x.1 < y.1
  · rw [if_pos h, decide_eq_true h]; rfl
  · rw [if_neg h, decide_eq_false h]; rfl
theorem swoH : Go.Sort.SWO (ltOf cmpH) where
  irrefl x := by rw [ltH]; exact decide_eq_false (List.lt_irrefl _)
  trans x y z h1 h2 := by
    rw [ltH] at *
    exact decide_eq_true (List.lt_trans (of_decide_eq_true h1) (of_decide_eq_true h2))
  ntrans x y z h1 h2 := by
    rw [ltH] at *
    have a := List.not_lt.1 (of_decide_eq_false h1)
    have b := List.not_lt.1 (of_decide_eq_false h2)
    exact decide_eq_false (List.not_lt.2 (List.le_trans b a))
set_option maxRecDepth 200000 in
theorem cmp_any (a b : List UInt8) (u v : Value) (W : World) :
    Calls Tryd.prog 20 #[.agg #[.string ⟨a.toArray⟩, u], .agg #[.string ⟨b.toArray⟩, v]] W fun e w' => e = .returned (.int .i64 (if a < b then -1 else 1)) ∧ ∃ q os', w' = Go.Sort.grow (W.drewN q) os' := by
  have hl := bytesLess_eq a b
  by_cases h : a < b
  · rw [decide_eq_true h] at hl
    rw [if_pos h]
    clear h
    go_enter Tryd.func20, Tryd.ntmps20
    go_wp2
    go_ret
    exact ⟨rfl, 0, _, by rw [Go.Sort.alloc_eq_grow, Go.Sort.alloc_eq_grow, Go.Sort.grow_grow]; rfl⟩
  · rw [decide_eq_false h] at hl
    rw [if_neg h]
    clear h
    go_enter Tryd.func20, Tryd.ntmps20
    go_wp2
    go_ret
    exact ⟨rfl, 0, _, by rw [Go.Sort.alloc_eq_grow, Go.Sort.alloc_eq_grow, Go.Sort.grow_grow]; rfl⟩
theorem grownBy_sortH {w : World} {g n : Nat} {os : Array Obj} (d : Array HX) : w.grownBy (sortWorldK encH 2 w g 0 n d os) (some g) := by
  refine ⟨rfl, rfl, rfl, by simp [sortWorldK, Go.Sort.putRowK], fun k hk hne => ?_⟩
  unfold sortWorldK
  rw [Go.Sort.heap_grow_old _ _ (by simpa [Go.Sort.putRowK] using hk)]
  have : g ≠ k := fun e => hne (by rw [e])
  simp [Go.Sort.putRowK, Go.Sort.putRow, Go.Sort.mapBlock, Go.Sort.ahead, Array.getElem?_modify, this]
/-- As keys with values. -/
def unH (x : HX) : List UInt8 × Value := (x.1, .slice x.2.1 x.2.2.1 x.2.2.2)
theorem cellsE_encH (X : List HX) (t : Nat) (h : t < X.length * 2) : (cellsE (X.map unH))[t]? = some (encH X.toArray[t / 2]!)[t % 2]! := by
  have hi : t / 2 < X.length := by omega
  have hx : (X.map unH)[t / 2]? = some (unH X[t / 2]) := by rw [List.getElem?_map, List.getElem?_eq_getElem hi]; rfl
  obtain ⟨c0, c1⟩ := cellsE_get0 _ _ _ hx
  have he : X.toArray[t / 2]! = X[t / 2] := by simp [hi]
  rw [he]
  rcases Nat.mod_two_eq_zero_or_one t with h0 | h0
  · rw [show t / 2 * 2 = t by omega] at c0
    rw [c0, h0]
    rfl
  · rw [show t / 2 * 2 + 1 = t by omega] at c1
    rw [c1, h0]
    rfl
theorem OE.holds {w : World} {base g cap : Nat} {X : List HX} (h : OE w base (.slice (some ⟨g, 0, none⟩) X.length cap) (X.map unH)) : Go.Sort.HoldsK encH 2 w g 0 X.toArray := by
  obtain ⟨h1, h2⟩ := h
  rcases h2 with ⟨h2, _⟩ | ⟨g', cap', cur, h2, hb, hg, hn, hm, hs, ht⟩
  · cases h2
  · simp only [Value.slice.injEq, Option.some.injEq, Addr.mk.injEq, and_true] at h2
    obtain ⟨rfl, _, rfl⟩ := h2
    have hB : Blk w g cur 51 := hg
    intro j hj
    rw [Go.Sort.size_flatK] at hj
    have hj2 : j < X.length * 2 := by simpa using hj
    rw [Nat.zero_add]
    refine ⟨?_, hB.free _⟩
    rw [hB.cell, Go.Sort.get_flatK _ _ _ _ hj]
    have := cellsE_encH X j hj2
    rw [id, ← this, ← ht, List.getElem?_take, if_pos (by simpa using hj2)]
    simp
theorem KR.holds {w : World} {g : Nat} {X : List HX} (h : Go.Sort.HoldsK encH 2 w g 0 X.toArray) : KR w (some ⟨g, 0, none⟩) (X.map unH) := by
  intro _
  refine ⟨g, rfl, fun i e he => ?_⟩
  rw [List.getElem?_map] at he
  rcases hx : X[i]? with _ | x
  · rw [hx] at he; cases he
  · rw [hx] at he
    injection he with he
    subst he
    obtain ⟨hi, hx⟩ := List.getElem?_eq_some_iff.1 hx
    have c0 := (h.cell (i := i) (c := 0) (by simpa using hi) (by decide)).1
    have c1 := (h.cell (i := i) (c := 1) (by simpa using hi) (by decide)).1
    have e1 : X.toArray[i]! = x := by simp [hi, hx]
    rw [e1] at c0 c1
    rw [Nat.zero_add] at c0 c1
    exact ⟨c0, c1⟩
set_option maxRecDepth 200000 in
theorem sortH_any {w : World} {base g cap : Nat} {X : List HX} (hown : OE w base (.slice (some ⟨g, 0, none⟩) X.length cap) (X.map unH)) (hlen : X.length ≤ 1000000) :
    Calls Tryd.prog 19 #[.slice (some ⟨g, 0, none⟩) X.length cap, .func (.func 20) #[] #[]] w fun e w' =>
      e = .returned (.tuple #[]) ∧ ∃ X' : List HX, X'.Perm X ∧ X'.Pairwise (fun x y => ¬ y.1 < x.1) ∧ KR w' (some ⟨g, 0, none⟩) (X'.map unH) ∧ w.grownBy w' (some g) := by
  have eg : ∀ args w, (callFunc 20 args).run Tryd.prog w = .ok (.enter 20 args) w := enters_of Tryd.func20 (by kernel_rfl) rfl
  have hlt : g < w.heap.size := (hown.lt g rfl).2
  have h := AnyQ.slices_SortFunc Tryd.sortHdr 2 Tryd.isAgg51 Tryd.sizeOf51 encH (fun _ => rfl) (fun x v hv => by simp [encH] at hv; rcases hv with rfl | rfl <;> rfl) cmpH swoH 20 #[] g 0 cap X.toArray w eg
    (fun _ _ _ _ x y => cmp_any x.1 y.1 _ _ _) hown.holds hlt (by simp; omega)
  refine Calls.mono (show Calls Tryd.prog 19 #[.slice (some ⟨g, 0, none⟩) X.length cap, .func (.func 20) #[] #[]] w _ from h) fun e w' ⟨he, d', n, os, hp, hs, hw⟩ => ⟨he, d'.toList, ?_, ?_, ?_, ?_⟩
  · obtain ⟨h1, _, h3⟩ := hp
    have e1 : d'.extract 0 X.toArray.size = d' := by rw [← h1]; simp
    have e2 : X.toArray.extract 0 X.toArray.size = X.toArray := by simp
    rw [e1, e2] at h3
    simpa using h3
  · rw [List.pairwise_iff_getElem]
    intro i j hi hj hij
    have hsz : d'.size = X.toArray.size := hp.1
    have hi' : i < d'.size := by simpa using hi
    have hj' : j < d'.size := by simpa using hj
    have := hs i j (Nat.zero_le _) hij (by omega)
    rw [ltH, getElem!_pos d' i hi', getElem!_pos d' j hj'] at this
    simpa using this
  · refine KR.holds ?_
    rw [hw]
    have := holdsK_sortWorldK_c encH 2 w g 0 X.toArray d' n os hown.holds hlt hp.1
    simpa using this
  · rw [hw]
    exact grownBy_sortH d'
/-- Any list, an empty one too. -/
theorem sortAll_any {w : World} {base cap : Nat} {A : Option Addr} {X : List HX} (hown : OE w base (.slice A X.length cap) (X.map unH)) (hlen : X.length ≤ 1000000) :
    Calls Tryd.prog 19 #[.slice A X.length cap, .func (.func 20) #[] #[]] w fun e w' =>
      e = .returned (.tuple #[]) ∧ ∃ X' : List HX, X'.Perm X ∧ X'.Pairwise (fun x y => ¬ y.1 < x.1) ∧ KR w' A (X'.map unH) ∧ w.grownBy w' (Value.slice A X.length cap).ownBlock := by
  by_cases he : X = []
  · subst he
    refine Calls.mono (AnyF.slices_SortFunc_none Tryd.sortHdr A cap _ w) fun e w' ⟨h1, h2⟩ => ⟨h1, [], List.Perm.refl _, List.Pairwise.nil, fun h => absurd rfl h, ?_⟩
    subst h2
    exact ⟨rfl, rfl, rfl, Nat.le_refl _, fun _ _ _ => rfl⟩
  · obtain ⟨A', c', e1, _, _, hkr, hsh⟩ := hown.form
    injection e1 with e1 _ _
    subst e1
    obtain ⟨g, rfl, _⟩ := hkr (by simpa using he)
    exact sortH_any hown hlen
/-- Keys with slices, as such. -/
theorem asH (E : List (List UInt8 × Value)) (h : ∀ e ∈ E, ∃ A n c, e.2 = .slice A n c) : ∃ X : List HX, E = X.map unH := by
  induction E with
  | nil => exact ⟨[], rfl⟩
  | cons e t ih =>
    obtain ⟨X, hX⟩ := ih (fun x hx => h x (List.mem_cons_of_mem _ hx))
    obtain ⟨A, n, c, he⟩ := h e (List.mem_cons_self ..)
    refine ⟨(e.1, A, n, c) :: X, ?_⟩
    rw [hX, List.map_cons]
    congr 1
    show e = (e.1, .slice A n c)
    rw [← he]
end Go.Proofs.YtilhgjcjofobeaaDoor
namespace Go.Proofs.YtilhgjcjofobeaaDoor
open Go.RowKit Go.Maps

theorem OS.litE (w : World) (base : Nat) (hb : base ≤ w.heap.size) : OS (w.alloc (.cells #[] 9)) base (.slice (some ⟨w.heap.size, 0, none⟩) 0 0) [] :=
  World.ownsRow_lit (base := base) (e := 9) (size := 1) w #[] 0 hb (by unfold maxLen; omega) rfl
structure HLs (b r n : Nat) (val : List UInt8 → Value) (f : HdrF) (w2 : World) (u8 : Value) (wr : World) (E : List (List UInt8 × Value)) (left : List UInt8 → Bool) (cnt : Nat) : Prop where
  map : MapR wr b r n val left cnt
  own : OE wr (r + 1) u8 E
  vals : ∀ e ∈ E, SVal wr (fun g => r + 1 ≤ g ∧ u8.ownBlock ≠ some g) e.2 (f e.1)
  nd : (E.map (·.1)).Nodup
  keys : ∀ k, k ∈ E.map (·.1) ↔ (val k ≠ .slice none 0 0 ∧ left k = false)
  ne : ∀ k, left k = true → val k ≠ .slice none 0 0
  len : E.length + cnt ≤ n
  below : Below r w2 wr
  size : r + 1 ≤ wr.heap.size
  lt : b < r
theorem HLs.lay {b r n cnt cnt1 : Nat} {val : List UInt8 → Value} {f : HdrF} {w2 wr w1 : World} {u8 : Value} {E : List (List UInt8 × Value)} {left : List UInt8 → Bool} (h : HLs b r n val f w2 u8 wr E left cnt) (hn : n ≤ 1000000) {k : List UInt8} (hk : left k = true)
    (hm1 : MapR w1 b r n val (fun z => left z && !(z == k)) cnt1) (hc : cnt1 < cnt) (hg1 : wr.grownBy w1 (some r)) (hs1 : w1.heap.size = wr.heap.size) {A5 : Option Addr} {c5 : Nat} (hsl : SL w1 A5 (f k)) (hlen : (f k).length ≤ 1000000) :
    ∃ (u2 : Value) (wb : World) (u3 : Value) (wd : World), (Builtin.append_ #[34, 34] 34 #[.slice (some ⟨w1.heap.size, 0, none⟩) 0 0, .slice A5 (f k).length c5]).run Tryd.prog (w1.alloc (.cells #[] 9)) = .ok u2 wb ∧
      (Builtin.append_ #[26, 26] 26 #[u8, .slice (some ⟨wb.heap.size, 0, none⟩) 1 1]).run Tryd.prog (wb.alloc (.cells #[.string ⟨k.toArray⟩, u2] 51)) = .ok u3 wd ∧
      HLs b r n val f w2 u3 wd (E ++ [(k, u2)]) (fun z => left z && !(z == k)) cnt1 := by
  have hsz := h.size
  have hbr := h.lt
  obtain ⟨u2, wb, hr1, hob, hgb, hu2⟩ := run_append_S 34 34 Tryd.underlying34 (w1.alloc (.cells #[] 9)) (r + 1) (.slice (some ⟨w1.heap.size, 0, none⟩) 0 0) [] (OS.litE w1 (r + 1) (by omega)) A5 (f k) c5 (hsl.below ((Below.refl _ _).alloc (Nat.le_refl _) _)) (by simp; omega) (by simp; omega)
  rw [List.nil_append] at hob
  have hu2' : u2.ownBlock = some w1.heap.size ∨ u2.ownBlock = some (w1.heap.size + 1) := by
    rcases hu2 with e | e
    · exact .inl e
    · rw [World.size_alloc] at e; exact .inr e
  replace hgb : (w1.alloc (.cells #[] 9)).grownBy wb (some w1.heap.size) := hgb
  have hszb := hgb.size
  rw [World.size_alloc] at hszb
  -- a block of wr other than r, and other than out's own
  have b1 : ∀ g, g < wr.heap.size → g ≠ r → wb.heap[g]? = wr.heap[g]? := fun g hg hgr =>
    (hgb.block g (by rw [World.size_alloc]; omega) (fun e => by injection e with e; omega)).trans ((heap_alloc_old w1 _ (by omega)).trans (hg1.block g hg (fun e => hgr (by injection e))))
  have bw1 : ∀ g, g < w1.heap.size → wb.heap[g]? = w1.heap[g]? := fun g hg =>
    (hgb.block g (by rw [World.size_alloc]; omega) (fun e => by injection e with e; omega)).trans (heap_alloc_old w1 _ hg)
  have hlt8 := h.own.lt
  have hownb : OE wb (r + 1) u8 E := h.own.of_blocks (fun g hg hl => b1 g hl (by have := (hlt8 g hg).1; omega))
  have hownc : OE (wb.alloc (.cells #[.string ⟨k.toArray⟩, u2] 51)) (r + 1) u8 E := hownb.of_blocks (fun g _ hl => heap_alloc_old wb _ hl)
  obtain ⟨A2, c2, hu2f, hu2l, hu2c, hu2s⟩ := hob.form
  have hone : u2.oneCell' = true := by rw [hu2f]; rfl
  have hBc : Blk (wb.alloc (.cells #[.string ⟨k.toArray⟩, u2] 51)) wb.heap.size #[.string ⟨k.toArray⟩, u2] 51 := Blk.new _ _ _
  obtain ⟨u3, wd, hr2, hod, hgd, hu3⟩ := run_append_E 26 (wb.alloc (.cells #[.string ⟨k.toArray⟩, u2] 51)) (r + 1) u8 E hownc wb.heap.size 1 k u2 hone (hBc.cell 0) (hBc.cell 1) (by have := h.len; omega) (by rw [World.size_alloc]; omega)
  have hszd := hgd.size
  rw [World.size_alloc] at hszd hu3
  have bd : ∀ g, g < wb.heap.size → u8.ownBlock ≠ some g → wd.heap[g]? = wb.heap[g]? := fun g hg hne => (hgd.block g (by rw [World.size_alloc]; omega) (fun e => hne e.symm)).trans (heap_alloc_old wb _ hg)
  have h8 : ∀ g, u8.ownBlock = some g → r + 1 ≤ g ∧ g < wr.heap.size := fun g hg => hlt8 g hg
  have h3 : ∀ g, g < wb.heap.size → u8.ownBlock ≠ some g → u3.ownBlock ≠ some g := fun g hg hne e => by
    rcases hu3 with e3 | e3
    · exact hne (by rw [← e3]; exact e)
    · rw [e3] at e; injection e with e; omega
  have hr8 : u8.ownBlock ≠ some r := fun e => by have := h8 r e; omega
  have hb8 : u8.ownBlock ≠ some b := fun e => by have := h8 b e; omega
  have hkn : k ∉ E.map (·.1) := fun hm => by have := ((h.keys k).1 hm).2; rw [hk] at this; cases this
  refine ⟨u2, wb, u3, wd, hr1, hr2, ⟨hm1.of ((bd b (by omega) hb8).trans (bw1 b (by omega))) ((bd r (by omega) hr8).trans (bw1 r (by omega))), hod, fun e he => ?_, ?_, fun k' => ?_, fun k' hk' => ?_, ?_, ?_, by omega, hbr⟩⟩
  · rcases List.mem_append.1 he with he | he
    · exact (h.vals e he).of (fun g hg hl => (bd g (by omega) hg.2).trans (b1 g hl (by omega))) (fun g hg hl => ⟨hg.1, h3 g (by omega) hg.2⟩)
    · simp only [List.mem_singleton] at he
      subst he
      refine ⟨A2, c2, hu2f, hu2l, hu2c, hu2s.of_block (fun g o e _ hl => ?_), fun g o e _ => ?_⟩
      · have hg2 : u2.ownBlock = some g := by rw [hu2f, e]; rfl
        exact bd g hl (fun e8 => by have := h8 g e8; rcases hu2' with e2 | e2 <;> (rw [e2] at hg2; injection hg2 with hg2; omega))
      · have hg2 : u2.ownBlock = some g := by rw [hu2f, e]; rfl
        have hgl := hob.lt g hg2
        exact ⟨hgl.1, h3 g hgl.2 (fun e8 => by have := h8 g e8; rcases hu2' with e2 | e2 <;> (rw [e2] at hg2; injection hg2 with hg2; omega))⟩
  · rw [List.map_append, List.nodup_append]
    refine ⟨h.nd, by simp, fun a ha c hc => ?_⟩
    simp at hc
    subst hc
    exact fun e => hkn (e ▸ ha)
  · rw [List.map_append, List.mem_append, h.keys k']
    simp only [List.map_cons, List.map_nil, List.mem_singleton, Bool.and_eq_false_iff, Bool.not_eq_false', beq_iff_eq]
    constructor
    · rintro (⟨h1, h2⟩ | rfl)
      · exact ⟨h1, .inl h2⟩
      · exact ⟨h.ne _ hk, .inr rfl⟩
    · rintro ⟨h1, h2 | h2⟩
      · exact .inl ⟨h1, h2⟩
      · exact .inr h2
  · have : left k' = true := by
      simp only [Bool.and_eq_true] at hk'
      exact hk'.1
    exact h.ne k' this
  · have := h.len
    simp
    omega
  · refine h.below.trans ⟨?_, ?_, ?_, by omega, fun g hg => (bd g (by omega) (fun e => by have := h8 g e; omega)).trans (b1 g (by omega) (by omega))⟩
    · exact hgd.os.trans (hgb.os.trans hg1.os)
    · exact hgd.tape.trans (hgb.tape.trans hg1.tape)
    · exact hgd.output.trans (hgb.output.trans hg1.output)
end Go.Proofs.YtilhgjcjofobeaaDoor
namespace Go.Proofs.YtilhgjcjofobeaaDoor
open Go.RowKit Go.Maps

theorem Tb.ge {K : Und} {base t p bb : Nat} {E : Nat → Addr} {gs : List Nat} {v : Value} {w : World} {S : List UInt8} (h : Tb K base E gs t p bb v w S) : ∀ k, SC K t p bb v k → base ≤ k := by
  intro k hk
  have hl := h.tp.lay
  rcases hk with (rfl | rfl | hk) | rfl | hk
  · exact hl.bp
  · exact hl.bb_
  · exact hl.bo k hk
  · exact h.tp.1
  · obtain ⟨acc, ho⟩ := h.own
    exact (ho.lt k hk).1
theorem Tb.lt {K : Und} {base t p bb : Nat} {E : Nat → Addr} {gs : List Nat} {v : Value} {w : World} {S : List UInt8} (h : Tb K base E gs t p bb v w S) : ∀ k, SC K t p bb v k → k < w.heap.size := by
  intro k hk
  rcases hk with hk | rfl | hk
  · exact Rs.S_lt h.tp.2.2.2 k hk
  · exact h.tp.2.2.1.lt
  · obtain ⟨acc, ho⟩ := h.own
    exact (ho.lt k hk).2
theorem Tb.frame {K : Und} {base t p bb : Nat} {E : Nat → Addr} {gs : List Nat} {v : Value} {w w' : World} {S : List UInt8} (h : Tb K base E gs t p bb v w S) (hc : Chg (SC K t p bb v) w w') : Below base w w' :=
  hc.below (fun k hk e => by have := h.ge k e; omega) h.tp.size
theorem Tb.other {K : Und} {base t p bb : Nat} {E : Nat → Addr} {gs : List Nat} {v : Value} {w w' : World} {S : List UInt8} (h : Tb K base E gs t p bb v w S) (hB : Below base w w') (hb : ∀ k, SC K t p bb v k → w'.heap[k]? = w.heap[k]?) : Tb K base E gs t p bb v w' S := by
  obtain ⟨acc, ho⟩ := h.own
  exact ⟨⟨h.tp.1, h.tp.2.1, h.tp.2.2.1.same (hb t (.inr (.inl rfl))), Rs.blocks h.tp.2.2.2 (fun k hk => hb k (.inl hk)) hB⟩, ⟨acc, ho.of_blocks (fun k hk _ => hb k (.inr (.inr hk)))⟩, h.out⟩
/-- The reader and the header. -/
structure HdS (K : Und) (base : Nat) (E : Nat → Addr) (gs : List Nat) (t p bb b sb hh n pos : Nat) (v : Value) (val : List UInt8 → Value) (f : HdrF) (u : Value) (w : World) (S : List UInt8) : Prop where
  tb : Tb K base E gs t p bb v w S
  hdr : HdrM w base b sb n pos val f
  strs : StrsV w base sb hh pos u
  dis : ∀ k, SC K t p bb v k → ¬ HB b val k ∧ k ≠ sb
section
variable {K : Und} {base : Nat} {E : Nat → Addr} {gs : List Nat} {t p bb b sb hh n pos : Nat} {v v' : Value} {val : List UInt8 → Value} {f : HdrF} {u : Value} {w w2 w0 : World} {S R : List UInt8}
theorem HdS.lo (h : HdS K base E gs t p bb b sb hh n pos v val f u w S) : base ≤ w.heap.size := h.tb.tp.size
theorem HdS.other (h : HdS K base E gs t p bb b sb hh n pos v val f u w S) (hs : w.heap.size ≤ w2.heap.size) (ht : Tb K base E gs t p bb v' w2 R) (hv : ∀ k, SC K t p bb v' k → SC K t p bb v k ∨ w.heap.size ≤ k) (hb : ∀ k, k < w.heap.size → HB b val k ∨ k = sb → w2.heap[k]? = w.heap[k]?) :
    HdS K base E gs t p bb b sb hh n pos v' val f u w2 R := by
  refine ⟨ht, h.hdr.of hs (fun k hk => hb k (h.hdr.lt k hk).2 (.inl hk)), h.strs.put (hb sb h.hdr.slt (.inr rfl)), fun k hk => ?_⟩
  rcases hv k hk with h1 | h1
  · exact h.dis k h1
  · refine ⟨fun e => ?_, fun e => ?_⟩
    · have := (h.hdr.lt k e).2; omega
    · have := h.hdr.slt; omega
theorem HdS.read (h : HdS K base E gs t p bb b sb hh n pos v val f u w S) (hC : Chg (SC K t p bb v) w w2) (hv : Turned v v' w) (ht : Tb K base E gs t p bb v' w2 R) : HdS K base E gs t p bb b sb hh n pos v' val f u w2 R := by
  refine h.other hC.size ht (fun k hk => ?_) (fun k hk hb => hC.block k hk (fun e => ?_))
  · rcases hk with hk | hk | hk
    · exact .inl (.inl hk)
    · exact .inl (.inr (.inl hk))
    · rcases hv with hv | ⟨j, hv, hj⟩
      · rw [hv] at hk; exact .inl (.inr (.inr hk))
      · rw [hv] at hk; injection hk with hk; exact .inr (by omega)
  · obtain ⟨h1, h2⟩ := h.dis k e
    rcases hb with hb | hb
    · exact h1 hb
    · exact h2 hb
theorem HdS.below (h : HdS K base E gs t p bb b sb hh n pos v val f u w S) (hb : Below w.heap.size w w2) : HdS K base E gs t p bb b sb hh n pos v val f u w2 S :=
  h.other hb.size (h.tb.below hb) (fun _ hk => .inl hk) (fun k hk _ => hb.block k hk)
theorem HdS.only (h : HdS K base E gs t p bb b sb hh n pos v val f u w S) (hb : Only w w2) : HdS K base E gs t p bb b sb hh n pos v val f u w2 S :=
  h.below ⟨hb.os, hb.tape, hb.output, by rw [hb.heap]; exact Nat.le_refl _, fun k _ => by rw [hb.heap]⟩
theorem HdS.wrote (h : HdS K base E gs t p bb b sb hh n pos v val f u w S) {g lo hi : Nat} (hw : Wrote g lo hi w w2) (ht : Tb K base E gs t p bb v w2 S) (hg : ¬ HB b val g ∧ g ≠ sb) : HdS K base E gs t p bb b sb hh n pos v val f u w2 S :=
  h.other (Nat.le_of_eq hw.size.symm) ht (fun _ hk => .inl hk) (fun k _ hk => hw.block k (fun e => by subst e; rcases hk with hk | hk; exact hg.1 hk; exact hg.2 hk))
theorem HdS.put (h : HdS K base E gs t p bb b sb hh n pos v val f u w S) {n' pos' : Nat} {val' : List UInt8 → Value} {f' : HdrF} {u' : Value} (hp : Putted w w2 base b sb n' pos' val val' f') (hu : StrsV w2 base sb hh pos' u') : HdS K base E gs t p bb b sb hh n' pos' v val' f' u' w2 S := by
  refine ⟨h.tb.other hp.frame (fun k hk => hp.keep k (h.tb.lt k hk) (h.dis k hk).1 (h.dis k hk).2), hp.hdr, hu, fun k hk => ⟨fun e => ?_, (h.dis k hk).2⟩⟩
  rcases hp.more k e with h1 | h1 | h1
  · exact (h.dis k hk).1 h1
  · exact (h.dis k hk).2 h1
  · have := h.tb.lt k hk; omega
end
theorem Loc.below {K : Und} {base p bb n : Nat} {E : Nat → Addr} {gs : List Nat} {v v' : Value} {w w' w2 : World} {R : List UInt8} {a : Addr} (h : Loc K base E gs p bb v v' w w' R (some a) n) (ha : a.block < w'.heap.size) (hb : Below w'.heap.size w' w2) : Loc K base E gs p bb v v' w w2 R (some a) n := by
  obtain ⟨B, U, r, z, lb, lr, hR, hBU, hx⟩ := h
  refine ⟨B, U, r, z, lb, lr, hR.below hb hR.S_lt, hBU, fun a' e => ?_⟩
  injection e with e
  subst e
  obtain ⟨h1, h2⟩ := hx a rfl
  refine ⟨h1, ?_⟩
  rcases h2 with h2 | h2 | h2
  · exact .inl h2
  · exact .inr (.inl ⟨h2.1, h2.2.1, fun i => (hb.frozen (p := ⟨a.block, i, none⟩) ha).trans (h2.2.2 i)⟩)
  · exact .inr (.inr h2)
theorem RB.bytesAt {w : World} {A : Option Addr} {l : List UInt8} (h : RB w A l) : Lib.BytesAt w A l.length l := fun h0 => by
  obtain ⟨g, o, rfl, hx⟩ := h (List.length_pos_iff.1 h0)
  refine ⟨g, o, rfl, fun i hi => ?_⟩
  rw [hx i l[i] (List.getElem?_eq_getElem hi), List.getD_eq_getElem?_getD, List.getElem?_eq_getElem hi]
  rfl
theorem valOf_drop (v : List UInt8) : v.drop (v.length - (valOf v).length) = valOf v := by
  have hs : valOf v <:+ v := List.dropWhile_suffix _
  exact (List.suffix_iff_eq_drop.1 hs).symm
theorem trimLeft_any {w : World} {A : Option Addr} {c : Nat} {v : List UInt8} (hnc : v.length ≤ c) (hc : c ≤ 9223372036854775807) (hr : RB w A v) :
    Calls Tryd.prog 52 #[.slice A v.length c, .string ⟨#[32, 9]⟩] w fun e w' => (∃ A3 c3, e = .returned (.slice A3 (valOf v).length c3) ∧ RB w' A3 (valOf v)) ∧ Below w.heap.size w w' := by
  have h27 : (Tryd.prog.info? 123).map (fun i => (i.zero, i.size)) = some (some (.agg (Array.replicate 256 (.bool false))), 256) := by kernel_rfl
  have h := Any.bytes_TrimLeft_ascii (P := Tryd.prog) Tryd.trimL (zero_of_info h27).1 (zero_of_info h27).2 A v.length c v ⟨#[32, 9]⟩ w rfl hnc hc hr.bytesAt (by decide) (fun j b hb => by
    have : b ∈ [(32 : UInt8), 9] := List.mem_of_getElem? hb
    simp at this
    rcases this with rfl | rfl <;> decide)
  refine Calls.mono (show Calls Tryd.prog 52 _ _ _ from h) fun e w' ⟨he, hb⟩ => ⟨?_, hb⟩
  have hle := valOf_le v
  have hd := valOf_drop v
  have e1 : Lib.trimLeftS v (ByteArray.mk #[32, 9]).data.toList = valOf v := rfl
  rw [e1] at he
  generalize valOf v = x at hle hd he ⊢
  unfold Lib.leftV at he
  by_cases h0 : x.length = 0
  · rw [if_pos (by omega)] at he
    have hx : x = [] := List.eq_nil_of_length_eq_zero h0
    subst hx
    exact ⟨none, 0, he, RB.nil _ _⟩
  · rw [if_neg (by omega)] at he
    unfold Lib.fromV at he
    obtain ⟨g, o, rfl, _⟩ := id hr (by rintro rfl; exact h0 (Nat.le_zero.1 hle))
    rw [if_neg (by omega), show v.length - (v.length - x.length) = x.length by omega] at he
    have h2 := (hr.below hb).drop (v.length - x.length)
    rw [hd] at h2
    refine ⟨_, _, he, ?_⟩
    simp only [Option.map_some]
    rw [addr_add]
    exact h2
end Go.Proofs.YtilhgjcjofobeaaDoor
