/- A header of the call's own, each key's values in a row of their own: MIMEHeader's methods on it. -/
import Derived.Test.YtaoedejenjfhoaaMapV
import Derived.Test.YtaoedejenjfhoaaSlOs
import Derived.Test.YtaoedejenjfhoaaKeyB
import Derived.WalkSpells
import Derived.Maps.OwnOps
namespace Go.Proofs.Ytaoedejenjfhoaa
open Go.RowKit Go.Maps

theorem canonOf_length (l : List UInt8) : (canonOf l).length = l.length := by
  unfold canonOf; split
  · exact canonL_length l
  · rfl
/-- Block b is a map whose values are rows of their own that read as f; no block of N is among its blocks. -/
structure HdrV (w : World) (base b n : Nat) (N : Nat → Prop) (val : List UInt8 → Value) (f : List UInt8 → List (List UInt8)) : Prop where
  map : MapIs w b n val
  ge : base ≤ b
  outb : ¬ N b
  own : ∀ k, OS w base (val k) (f k)
  apart : ∀ k k' g, (val k).ownBlock = some g → (val k').ownBlock = some g → k = k'
  out : ∀ k g, (val k).ownBlock = some g → ¬ N g
  small : ∀ k, (f k).length ≤ n
/-- What was below base, and the blocks of N, stand as they did. -/
structure Kept (base : Nat) (N : Nat → Prop) (w w' : World) : Prop where
  os : w'.os = w.os
  tape : w'.tape = w.tape
  output : w'.output = w.output
  size : w.heap.size ≤ w'.heap.size
  block : ∀ k, k < w.heap.size → (N k ∨ k < base) → w'.heap[k]? = w.heap[k]?
theorem Kept.refl (base : Nat) (N : Nat → Prop) (w : World) : Kept base N w w := ⟨rfl, rfl, rfl, Nat.le_refl _, fun _ _ _ => rfl⟩
theorem Kept.trans {base : Nat} {N : Nat → Prop} {w w' w'' : World} (h : Kept base N w w') (h2 : Kept base N w' w'') : Kept base N w w'' :=
  ⟨h2.os.trans h.os, h2.tape.trans h.tape, h2.output.trans h.output, Nat.le_trans h.size h2.size, fun k hk hN => (h2.block k (Nat.lt_of_lt_of_le hk h.size) hN).trans (h.block k hk hN)⟩
theorem Kept.of_below {base : Nat} {N : Nat → Prop} {w w' : World} (h : Below w.heap.size w w') : Kept base N w w' := ⟨h.os, h.tape, h.output, h.size, fun k hk _ => h.block k hk⟩
theorem Kept.alloc {base : Nat} {N : Nat → Prop} (w : World) (o : Obj) : Kept base N w (w.alloc o) := ⟨rfl, rfl, rfl, by simp, fun k hk _ => heap_alloc_old w o hk⟩
theorem Kept.of_grown {base : Nat} {N : Nat → Prop} {w w' : World} {r : Option Nat} (h : w.grownBy w' r) (hr : ∀ g, r = some g → ¬ N g ∧ base ≤ g) : Kept base N w w' :=
  ⟨h.os, h.tape, h.output, h.size, fun k hk hN => h.block k hk fun e => by
    obtain ⟨h1, h2⟩ := hr k e.symm
    rcases hN with hN | hN
    · exact h1 hN
    · omega⟩
theorem Kept.below {base : Nat} {N : Nat → Prop} {w w' : World} (h : Kept base N w w') (hb : base ≤ w.heap.size) : Below base w w' :=
  ⟨h.os, h.tape, h.output, h.size, fun k hk => h.block k (by omega) (.inr hk)⟩
theorem OS.lit (w : World) (base : Nat) (hb : base ≤ w.heap.size) (s : List UInt8) : OS (w.alloc (.cells #[.string ⟨s.toArray⟩] 9)) base (.slice (some ⟨w.heap.size, 0, none⟩) 1 1) [s] := by
  have := World.ownsRow_lit (base := base) (e := 9) (size := 1) w #[.string ⟨s.toArray⟩] 1 hb (by unfold maxLen; omega) rfl
  exact this
theorem HdrV.of {w w' : World} {base b n : Nat} {N N' : Nat → Prop} {val : List UInt8 → Value} {f : List UInt8 → List (List UInt8)} (h : HdrV w base b n N val f)
    (hb : ∀ k, k < w.heap.size → k = b ∨ (∃ key, (val key).ownBlock = some k) → w'.heap[k]? = w.heap[k]? ∧ ¬ N' k) : HdrV w' base b n N' val f :=
  ⟨h.map.of (hb b h.map.lt (.inl rfl)).1, h.ge, (hb b h.map.lt (.inl rfl)).2, fun k => (h.own k).of_blocks fun g hg hl => (hb g hl (.inr ⟨k, hg⟩)).1, h.apart,
    fun k g hg => (hb g ((h.own k).lt g hg).2 (.inr ⟨k, hg⟩)).2, h.small⟩
theorem HdrV.below {w w' : World} {base b n : Nat} {N : Nat → Prop} {val : List UInt8 → Value} {f : List UInt8 → List (List UInt8)} (h : HdrV w base b n N val f) (hb : Below w.heap.size w w') : HdrV w' base b n N val f :=
  h.of fun k hk hx => ⟨hb.block k hk, by
    rcases hx with rfl | ⟨key, hx⟩
    · exact h.outb
    · exact h.out key k hx⟩
theorem HdrV.ne {w : World} {base b n : Nat} {N : Nat → Prop} {val : List UInt8 → Value} {f : List UInt8 → List (List UInt8)} (h : HdrV w base b n N val f) (k : List UInt8) : (val k).ownBlock ≠ some b := by
  intro e
  obtain ⟨D, ⟨es, clock, h1, _⟩, _⟩ := h.map
  rcases (h.own k).2 with ⟨h2, _⟩ | ⟨g, cap, cur, h2, _, h3, _⟩
  · rw [h2] at e; cases e
  · rw [h2] at e; injection e with e; rw [← e] at h1; rw [h3] at h1; cases h1
theorem HdrV.put {w w' : World} {base b n m : Nat} {N : Nat → Prop} {val : List UInt8 → Value} {f : List UInt8 → List (List UInt8)} (h : HdrV w base b n N val f) (hN : ∀ g, N g → g < w.heap.size) {c : List UInt8} {u : Value} {l : List (List UInt8)}
    (hm : MapIs w' b m (updF val c u)) (hnm : n ≤ m) (hu : OS w' base u l) (hl : l.length ≤ m) (hb : ∀ g, u.ownBlock = some g → (val c).ownBlock = some g ∨ w.heap.size ≤ g)
    (hk : ∀ k, k ≠ c → ∀ g, (val k).ownBlock = some g → w'.heap[g]? = w.heap[g]?) : HdrV w' base b m N (updF val c u) (updF f c l) := by
  have hu2 : ∀ k, k ≠ c → ∀ g, (val k).ownBlock = some g → u.ownBlock = some g → False := by
    intro k hkc g h1 h2
    rcases hb g h2 with h3 | h3
    · exact hkc (h.apart k c g h1 h3)
    · exact absurd ((h.own k).lt g h1).2 (by omega)
  refine ⟨hm, h.ge, h.outb, fun k => ?_, fun k k' g h1 h2 => ?_, fun k g h1 => ?_, fun k => ?_⟩
  · by_cases e : k = c
    · subst e; rw [updF_same, updF_same]; exact hu
    · rw [updF_other _ _ e, updF_other _ _ e]
      exact (h.own k).of_blocks fun g hg _ => hk k e g hg
  · by_cases e : k = c <;> by_cases e' : k' = c
    · rw [e, e']
    · subst e; rw [updF_same] at h1; rw [updF_other _ _ e'] at h2
      exact (hu2 k' e' g h2 h1).elim
    · subst e'; rw [updF_same] at h2; rw [updF_other _ _ e] at h1
      exact (hu2 k e g h1 h2).elim
    · rw [updF_other _ _ e] at h1; rw [updF_other _ _ e'] at h2
      exact h.apart k k' g h1 h2
  · by_cases e : k = c
    · subst e; rw [updF_same] at h1
      rcases hb g h1 with h2 | h2
      · exact h.out k g h2
      · intro h3; have := hN g h3; omega
    · rw [updF_other _ _ e] at h1
      exact h.out k g h1
  · by_cases e : k = c
    · subst e; rw [updF_same]; exact hl
    · rw [updF_other _ _ e]; exact Nat.le_trans (h.small k) hnm
theorem wpList_look {ops : Array Oper} {Q : Exit → Act → World → Prop} {a : Act} {w : World} {rest : List Oper} {o : Oper} (hg : o.guard = none) (m x : Operand) (hop : o.op = Op.lookup 39 m x false)
    (b n : Nat) (val : List UInt8 → Value) (hm : a.eval m = .map (some b)) (h : MapIs w b n val) (k : List UInt8) (hx : a.eval x = .string ⟨k.toArray⟩) (hk : k.length ≤ 9223372036854775807) (u : Value) (hu : val k = u)
    (hK : wpList Try.prog ops Q rest (a.put o.dst u) w) : wpList Try.prog ops Q (o :: rest) a w := by
  subst hu
  refine wpList_plain hg fun K' hK' => ?_
  have hrun := h.look hk
  unfold Oper.wp
  simp [execOp, hop, hm, hx, hrun, Result.andThen]
  exact hK' _ _ hK
/-- What is known behind a call that changed a header. -/
def HdrEnd (base b n : Nat) (N : Nat → Prop) (f : List UInt8 → List (List UInt8)) (w w' : World) : Prop := (∃ val, HdrV w' base b n N val f) ∧ Kept base N w w'

theorem add_any {w : World} {base b n : Nat} {N : Nat → Prop} {val : List UInt8 → Value} {f : List UInt8 → List (List UInt8)} (h : HdrV w base b n N val f) (hN : ∀ g, N g → g < w.heap.size) (hbase : base ≤ w.heap.size) (hn : n ≤ 3000000000)
    (k v : List UInt8) (hk : k.length ≤ 9223372036854775807) :
    Calls Try.prog 30 #[.map (some b), .string ⟨k.toArray⟩, .string ⟨v.toArray⟩] w fun e w' => e = .returned (.tuple #[]) ∧ HdrEnd base b (n + 1) N (updF f (canonOf k) (f (canonOf k) ++ [v])) w w' := by
  obtain ⟨A, c, hval, hc, hc2, hsl⟩ := (h.own (canonOf k)).form
  have hsm := h.small (canonOf k)
  have hkc : (canonOf k).length ≤ 9223372036854775807 := by rw [canonOf_length]; exact hk
  have HC := Lib.hid canonHeader_any
  have H := Lib.hid (And.intro h (And.intro hN (And.intro hbase (And.intro hn (And.intro hk (And.intro hkc (And.intro hsm hval)))))))
  clear h hN hbase hn hk hkc hsl hc hc2 hsm hval
  go_enter Try.func30, Try.ntmps30
  go_wp2_with (first
    | (go_at_call 27; refine (HC.out k H.out.2.2.2.2.1 _).mono ?_; rintro e w1 ⟨rfl, hb1⟩; have H1 := Lib.hid (And.intro (H.out.1.below hb1) hb1); clear hb1)
    | (at_lookup; refine wpList_look rfl _ _ rfl b n val rfl H1.out.1.map _ rfl H.out.2.2.2.2.2.1 _ H.out.2.2.2.2.2.2.2 ?_)
    | (with_reducible refine at_appendS ?_
       refine wpList_append_S rfl _ _ _ Try.underlying31 rfl base (.slice A (f (canonOf k)).length c) (f (canonOf k)) rfl (by rw [← H.out.2.2.2.2.2.2.2]; exact (H1.out.1.own _).alloc _) _ [v] _ _ rfl rfl (SL.one _ v 9) (by have := H.out.2.2.2.1; have := H.out.2.2.2.2.2.2.1; simp only [List.length_singleton]; omega)
         (by have := H.out.2.2.1; have := H1.out.2.size; simp; omega) _ rfl _ rfl ?_
       intro A2 c2 w2 hap; have HA := Lib.hid hap; clear hap)
    | (at_mapUpdate
       refine wpList_upd rfl _ _ _ rfl b n val rfl (H1.out.1.map.of ((HA.out.grown.block b (by have := H1.out.1.map.lt; simp; omega) (fun e => H1.out.1.ne (canonOf k) (by rw [H.out.2.2.2.2.2.2.2]; exact e.symm))).trans (heap_alloc_old _ _ H1.out.1.map.lt))) (by have := H.out.2.2.2.1; omega) _ rfl H.out.2.2.2.2.2.1 (.slice A2 ((f (canonOf k)).length + 1) c2) rfl ?_
       intro w3 hm hg; have HM := Lib.hid (And.intro hm hg); clear hm hg))
  refine bodyPost_end (results_none rfl _ _ _) rfl ?_
  have hh := H1.out.1
  have hap := HA.out
  have hgr := HM.out.2
  have hval := H.out.2.2.2.2.2.2.2
  have hsz : w1.heap.size < w2.heap.size := by have := hap.grown.size; simp at this; omega
  have hb2 : (Value.slice A2 ((f (canonOf k)).length + 1) c2).ownBlock ≠ some b := by
    intro e
    rcases hap.at_ with h1 | h1
    · rw [h1, ← hval] at e; exact hh.ne _ e
    · rw [h1] at e; injection e with e; have := hh.map.lt; simp at e; omega
  refine ⟨rfl, ⟨_, hh.put (fun g hg => Nat.lt_of_lt_of_le (H.out.2.1 g hg) H1.out.2.size) HM.out.1 (by omega) (hap.own.of_blocks fun g hg hl => hgr.block g hl (fun e => hb2 (by rw [hg, e]))) (by have := hh.small (canonOf k); simp; omega) (fun g hg => ?_) (fun k' hk' g hg => ?_)⟩, ?_⟩
  · rcases hap.at_ with h1 | h1
    · rw [h1] at hg; exact .inl (by rw [hval]; exact hg)
    · rw [h1] at hg; injection hg with hg; simp at hg; exact .inr (by omega)
  · have hl := ((hh.own k').lt g hg).2
    refine (hgr.block g (by omega) (fun e => hh.ne k' (by rw [hg, e]))).trans ((hap.grown.block g (by simp; omega) (fun e => ?_)).trans (heap_alloc_old _ _ hl))
    exact hk' (hh.apart k' (canonOf k) g hg (by rw [hval]; exact e.symm))
  · refine (Kept.of_below H1.out.2).trans ((Kept.alloc _ _).trans ((Kept.of_grown hap.grown (fun g hg => ?_)).trans (Kept.of_grown hgr (fun g hg => ?_))))
    · exact ⟨hh.out (canonOf k) g (by rw [hval]; exact hg), ((hh.own (canonOf k)).lt g (by rw [hval]; exact hg)).1⟩
    · injection hg with hg; subst hg; exact ⟨hh.outb, hh.ge⟩
theorem set_any {w : World} {base b n : Nat} {N : Nat → Prop} {val : List UInt8 → Value} {f : List UInt8 → List (List UInt8)} (h : HdrV w base b n N val f) (hN : ∀ g, N g → g < w.heap.size) (hbase : base ≤ w.heap.size) (hn : n ≤ 3000000000)
    (k v : List UInt8) (hk : k.length ≤ 9223372036854775807) :
    Calls Try.prog 31 #[.map (some b), .string ⟨k.toArray⟩, .string ⟨v.toArray⟩] w fun e w' => e = .returned (.tuple #[]) ∧ HdrEnd base b (n + 1) N (updF f (canonOf k) [v]) w w' := by
  have hkc : (canonOf k).length ≤ 9223372036854775807 := by rw [canonOf_length]; exact hk
  have HC := Lib.hid canonHeader_any
  have H := Lib.hid (And.intro h (And.intro hN (And.intro hbase (And.intro hn (And.intro hk hkc)))))
  clear h hN hbase hn hk hkc
  go_enter Try.func31, Try.ntmps31
  go_wp2_with (first
    | (go_at_call 27; refine (HC.out k H.out.2.2.2.2.1 _).mono ?_; rintro e w1 ⟨rfl, hb1⟩; have H1 := Lib.hid (And.intro (H.out.1.below hb1) hb1); clear hb1)
    | (at_mapUpdate
       refine wpList_upd rfl _ _ _ rfl b n val rfl (H1.out.1.map.of (heap_alloc_old _ _ H1.out.1.map.lt)) (by have := H.out.2.2.2.1; omega) _ rfl H.out.2.2.2.2.2 (.slice (some ⟨w1.heap.size, 0, none⟩) 1 1) rfl ?_
       intro w3 hm hg; have HM := Lib.hid (And.intro hm hg); clear hm hg))
  refine bodyPost_end (results_none rfl _ _ _) rfl ?_
  have hh := H1.out.1
  have hgr := HM.out.2
  have hlt := hh.map.lt
  have hb1 : base ≤ w1.heap.size := Nat.le_trans H.out.2.2.1 H1.out.2.size
  refine ⟨rfl, ⟨_, hh.put (fun g hg => Nat.lt_of_lt_of_le (H.out.2.1 g hg) H1.out.2.size) HM.out.1 (by omega) ((OS.lit w1 base hb1 v).of_blocks fun g hg hl => hgr.block g hl (fun e => ?_)) (by simp) (fun g hg => ?_) (fun k' hk' g hg => ?_)⟩, ?_⟩
  · injection e with e; injection hg with hg; simp at hg; omega
  · injection hg with hg; simp at hg; exact .inr (by omega)
  · have hl := ((hh.own k').lt g hg).2
    exact (hgr.block g (by simp; omega) (fun e => hh.ne k' (by rw [hg, e]))).trans (heap_alloc_old _ _ hl)
  · refine (Kept.of_below H1.out.2).trans ((Kept.alloc _ _).trans (Kept.of_grown hgr (fun g hg => ?_)))
    injection hg with hg; subst hg; exact ⟨hh.outb, hh.ge⟩
theorem del_any {w : World} {base b n : Nat} {N : Nat → Prop} {val : List UInt8 → Value} {f : List UInt8 → List (List UInt8)} (h : HdrV w base b n N val f) (hN : ∀ g, N g → g < w.heap.size)
    (k : List UInt8) (hk : k.length ≤ 9223372036854775807) :
    Calls Try.prog 32 #[.map (some b), .string ⟨k.toArray⟩] w fun e w' => e = .returned (.tuple #[]) ∧ HdrEnd base b n N (updF f (canonOf k) []) w w' := by
  have hkc : (canonOf k).length ≤ 9223372036854775807 := by rw [canonOf_length]; exact hk
  have HC := Lib.hid canonHeader_any
  have H := Lib.hid (And.intro h (And.intro hN (And.intro hk hkc)))
  clear h hN hk hkc
  go_enter Try.func32, Try.ntmps32
  go_wp2_with (first
    | (go_at_call 27; refine (HC.out k H.out.2.2.1 _).mono ?_; rintro e w1 ⟨rfl, hb1⟩; have H1 := Lib.hid (And.intro (H.out.1.below hb1) hb1); clear hb1)
    | (at_delete
       refine wpList_del rfl _ _ rfl b n val rfl H1.out.1.map _ rfl H.out.2.2.2 ?_
       intro w3 hm hg; have HM := Lib.hid (And.intro hm hg); clear hm hg))
  refine bodyPost_end (results_none rfl _ _ _) rfl ?_
  have hh := H1.out.1
  have hgr := HM.out.2
  refine ⟨rfl, ⟨_, hh.put (fun g hg => Nat.lt_of_lt_of_le (H.out.2.1 g hg) H1.out.2.size) HM.out.1 (Nat.le_refl _) (OS.nil _ _) (by simp) (fun g hg => by cases hg) (fun k' hk' g hg => ?_)⟩, ?_⟩
  · exact hgr.block g ((hh.own k').lt g hg).2 (fun e => hh.ne k' (by rw [hg, e]))
  · refine (Kept.of_below H1.out.2).trans (Kept.of_grown hgr (fun g hg => ?_))
    injection hg with hg; subst hg; exact ⟨hh.outb, hh.ge⟩
/-- What Get gives: the first value, or nothing. -/
def firstOf (l : List (List UInt8)) : List UInt8 := l.headD []
theorem get_any {w : World} {base b n : Nat} {N : Nat → Prop} {val : List UInt8 → Value} {f : List UInt8 → List (List UInt8)} (h : HdrV w base b n N val f)
    (k : List UInt8) (hk : k.length ≤ 9223372036854775807) :
    Calls Try.prog 33 #[.map (some b), .string ⟨k.toArray⟩] w fun e w' => e = .returned (.string ⟨(firstOf (f (canonOf k))).toArray⟩) ∧ Below w.heap.size w w' := by
  have hkc : (canonOf k).length ≤ 9223372036854775807 := by rw [canonOf_length]; exact hk
  obtain ⟨A, c, hval, hc, hc2, hsl⟩ := (h.own (canonOf k)).form
  have HC := Lib.hid canonHeader_any
  have qT : ∀ (w : World) (r : Option Nat), (binOp .eql 39 (.map r) (.map none)).run Try.prog w = .ok (.bool r.isNone) w := fun w r => run_eql_map_nil w _ _ _ r Try.underlying39
  have H := Lib.hid (And.intro h (And.intro hk (And.intro hkc hval)))
  rcases hl : f (canonOf k) with _ | ⟨s, t⟩
  · rw [hl] at hval
    have HV := Lib.hid hval
    clear h hk hkc hval hc hc2 hsl hl
    go_enter Try.func33, Try.ntmps33
    go_wp2_with (first
      | (go_at_call 27; refine (HC.out k H.out.2.1 _).mono ?_; rintro e w1 ⟨rfl, hb1⟩; have H1 := Lib.hid (And.intro (H.out.1.below hb1) hb1); clear hb1)
      | (at_lookup; refine wpList_look rfl _ _ rfl b n val rfl H1.out.1.map _ rfl H.out.2.2.1 _ HV.out ?_))
    go_ret
    exact ⟨rfl, H1.out.2⟩
  · rw [hl] at hval hsl
    obtain ⟨g, o, rfl, hcell⟩ := hsl (by simp)
    have c0 : w.cell? ⟨g, o, none⟩ = some (.string ⟨s.toArray⟩) := hcell 0 s rfl
    have hlt := World.block_lt_of_cell? _ _ c0
    have HV := Lib.hid hval
    have HX := Lib.hid (And.intro c0 hlt)
    clear h hk hkc hval hc hc2 hsl hl hcell c0 hlt
    go_enter Try.func33, Try.ntmps33
    go_wp2_with (first
      | (go_at_call 27; refine (HC.out k H.out.2.1 _).mono ?_; rintro e w1 ⟨rfl, hb1⟩; have H1 := Lib.hid (And.intro (H.out.1.below hb1) hb1); have c1 := (hb1.cell HX.out.2).trans HX.out.1; clear hb1)
      | (at_lookup; refine wpList_look rfl _ _ rfl b n val rfl H1.out.1.map _ rfl H.out.2.2.1 _ HV.out ?_))
    go_ret
    exact ⟨rfl, H1.out.2⟩
theorem values_any {w : World} {base b n : Nat} {N : Nat → Prop} {val : List UInt8 → Value} {f : List UInt8 → List (List UInt8)} (h : HdrV w base b n N val f)
    (k : List UInt8) (hk : k.length ≤ 9223372036854775807) :
    Calls Try.prog 34 #[.map (some b), .string ⟨k.toArray⟩] w fun e w' => (∃ A c, e = .returned (.slice A (f (canonOf k)).length c) ∧ SL w' A (f (canonOf k))) ∧ Below w.heap.size w w' := by
  have hkc : (canonOf k).length ≤ 9223372036854775807 := by rw [canonOf_length]; exact hk
  obtain ⟨A, c, hval, hc, hc2, hsl⟩ := (h.own (canonOf k)).form
  have HC := Lib.hid canonHeader_any
  have qT : ∀ (w : World) (r : Option Nat), (binOp .eql 39 (.map r) (.map none)).run Try.prog w = .ok (.bool r.isNone) w := fun w r => run_eql_map_nil w _ _ _ r Try.underlying39
  have H := Lib.hid (And.intro h (And.intro hk (And.intro hkc (And.intro hval hsl))))
  clear h hk hkc hval hc hc2 hsl
  go_enter Try.func34, Try.ntmps34
  go_wp2_with (first
    | (go_at_call 27; refine (HC.out k H.out.2.1 _).mono ?_; rintro e w1 ⟨rfl, hb1⟩; have H1 := Lib.hid (And.intro (H.out.1.below hb1) hb1); clear hb1)
    | (at_lookup; refine wpList_look rfl _ _ rfl b n val rfl H1.out.1.map _ rfl H.out.2.2.1 _ H.out.2.2.2.1 ?_))
  go_ret
  exact ⟨⟨A, c, rfl, H.out.2.2.2.2.below H1.out.2⟩, H1.out.2⟩
end Go.Proofs.Ytaoedejenjfhoaa
