/- The walk of readContinuedLineSlice. -/
import Derived.Test.YtilhgjcjofobeaaDoorZC5
import Derived.Test.YtilhgjcjofobeaaDoorZC7
import Derived.Test.YtilhgjcjofobeaaDoorZC8
import Derived.Lib.AppendZeros
import Derived.Deep.RegionHeld3
import Derived.Deep.DeepCutAuto
namespace Go.Proofs.YtilhgjcjofobeaaDoor
open Go.RowKit

/-- A textproto.Reader whose own buffer is v. -/
structure Tb (K : Und) (base : Nat) (E : Nat → Addr) (gs : List Nat) (t p bb : Nat) (v : Value) (w : World) (S : List UInt8) : Prop where
  tp : Tp K base E gs t p bb v w S
  own : ∃ acc, OB w base v acc
  out : ∀ k, v.ownBlock = some k → ¬ Rd.S K p bb k ∧ k ≠ t
theorem OB.of_blocks {w w' : World} {base : Nat} {v : Value} {l : List UInt8} (h : OB w base v l) (hb : ∀ k, v.ownBlock = some k → k < w.heap.size → w'.heap[k]? = w.heap[k]?) : OB w' base v l := by
  have hlt := h.lt
  obtain ⟨h1, h2⟩ := h
  refine ⟨h1, ?_⟩
  rcases h2 with ⟨rfl, h0⟩ | ⟨g, cap, cur, rfl, hbg, hg, r⟩
  · exact .inl ⟨rfl, h0⟩
  · exact .inr ⟨g, cap, cur, rfl, hbg, by rw [hb g rfl (hlt g rfl).2]; exact hg, r⟩
/-- 'v[:0]': the row is free again. -/
theorem OB.empty {w : World} {base n c : Nat} {A : Option Addr} {l : List UInt8} (h : OB w base (.slice A n c) l) : OB w base (.slice A 0 c) [] := by
  obtain ⟨_, h2⟩ := h
  rcases h2 with ⟨h, _⟩ | ⟨g, cap, cur, h, hbg, hg, _, hm, hs, _⟩
  · injection h with h1 _ h3
    subst h1
    subst h3
    exact OB.nil _ _
  · injection h with h1 _ h3
    subst h1
    subst h3
    exact ⟨rfl, .inr ⟨g, _, cur, rfl, hbg, hg, Nat.zero_le _, hm, hs, by simp [bts]⟩⟩
theorem trimB_le (l : List UInt8) : (trimB l).length ≤ l.length := by
  unfold trimB
  rw [List.length_reverse]
  have h1 := (List.dropWhile_sublist blank (l := (l.dropWhile blank).reverse)).length_le
  have h2 := (List.dropWhile_sublist blank (l := l)).length_le
  rw [List.length_reverse] at h1
  omega
theorem TSays.le {S l R : List UInt8} {er : Er} (h : TSays S l er R) : l.length + R.length ≤ S.length := by
  induction h with
  | done h1 => exact h1.le
  | err h1 _ => have := h1.le; simp; omega
  | step h1 _ ih => have := h1.le; rw [List.length_append]; omega
  | fall h1 _ _ ih => have := h1.le; simp; omega
theorem Tb.step {K : Und} {base t p bb : Nat} {E : Nat → Addr} {gs : List Nat} {v : Value} {w w' : World} {S S' : List UInt8} (h : Tb K base E gs t p bb v w S) (hC : Chg (Rd.S K p bb) w w') (hT : Tp K base E gs t p bb v w' S') : Tb K base E gs t p bb v w' S' := by
  obtain ⟨acc, ho⟩ := h.own
  exact ⟨hT, ⟨acc, ho.of_blocks (fun k hk hl => hC.block k hl (h.out k hk).1)⟩, h.out⟩
theorem Tb.below {K : Und} {base t p bb : Nat} {E : Nat → Addr} {gs : List Nat} {v : Value} {w w' : World} {S : List UInt8} (h : Tb K base E gs t p bb v w S) (hb : Below w.heap.size w w') : Tb K base E gs t p bb v w' S := by
  obtain ⟨acc, ho⟩ := h.own
  exact ⟨h.tp.below hb, ⟨acc, ho.of_blocks (fun k hk hl => hb.block k hl)⟩, h.out⟩
theorem Tb.only {K : Und} {base t p bb : Nat} {E : Nat → Addr} {gs : List Nat} {v : Value} {w w' : World} {S : List UInt8} (h : Tb K base E gs t p bb v w S) (hb : Only w w') : Tb K base E gs t p bb v w' S :=
  h.below ⟨hb.os, hb.tape, hb.output, by rw [hb.heap]; exact Nat.le_refl _, fun k _ => by rw [hb.heap]⟩
/-- The frame. -/
def SC (K : Und) (t p bb : Nat) (v : Value) (k : Nat) : Prop := Rd.S K p bb k ∨ k = t ∨ v.ownBlock = some k
/-- The buffer is the old one, or a new one. -/
def Turned (v v' : Value) (w : World) : Prop := v'.ownBlock = v.ownBlock ∨ ∃ k, v'.ownBlock = some k ∧ w.heap.size ≤ k
theorem SC.trans {K : Und} {t p bb : Nat} {v v' : Value} {w wr w2 : World} (h : Chg (SC K t p bb v) w wr) (hv : Turned v v' w) (k : Chg (SC K t p bb v') wr w2) : Chg (SC K t p bb v) w w2 :=
  ⟨k.os.trans h.os, k.tape.trans h.tape, k.output.trans h.output, Nat.le_trans h.size k.size, fun i hi hs => (k.block i (Nat.lt_of_lt_of_le hi h.size) (fun e => by
    rcases e with e | e | e
    · exact hs (.inl e)
    · exact hs (.inr (.inl e))
    · rcases hv with hv | ⟨j, hv, hj⟩
      · rw [hv] at e; exact hs (.inr (.inr e))
      · rw [hv] at e; injection e with e; omega)).trans (h.block i hi hs)⟩
theorem SC.sub {K : Und} {t p bb : Nat} {v v' : Value} {w wr w2 : World} (_hv : Turned v v' w) (k : Chg (Rd.S K p bb) wr w2) : Chg (SC K t p bb v) wr w2 := k.sub (fun _ _ e => .inl e)
theorem takeWhile_add (f : UInt8 → Bool) (S : List UInt8) : (S.takeWhile f).length + (S.dropWhile f).length = S.length := by
  have := congrArg List.length (List.takeWhile_append_dropWhile (p := f) (l := S))
  rwa [List.length_append] at this
/-- What has been gathered lies in the reader's own buffer. -/
def CtMid (K : Und) (base : Nat) (E : Nat → Addr) (gs : List Nat) (t p bb : Nat) (v : Value) (w wx : World) (acc S : List UInt8) : Prop :=
  ∃ A c, OB wx base (.slice A acc.length c) acc ∧ Tb K base E gs t p bb (.slice A acc.length c) wx S ∧ Chg (SC K t p bb v) w wx ∧ Turned v (.slice A acc.length c) w
theorem CtMid.put {K : Und} {base t p bb : Nat} {E : Nat → Addr} {gs : List Nat} {v v0 : Value} {w wr w5 : World} {A5 : Option Addr} {n5 c5 : Nat} {acc5 S1 : List UInt8} {ow : Option Nat} (hT : Tb K base E gs t p bb v0 wr S1) (hC : Chg (SC K t p bb v) w wr) (hv : Turned v v0 w) (how : ow = v0.ownBlock)
    (hgrow : wr.grownBy w5 ow) (hown : OB w5 base (.slice A5 n5 c5) acc5) (hat : (Value.slice A5 n5 c5).ownBlock = ow ∨ (Value.slice A5 n5 c5).ownBlock = some wr.heap.size) :
    CtMid K base E gs t p bb v w (w5.setCell ⟨t, 2, none⟩ (.slice A5 n5 c5)) acc5 S1 := by
  subst how
  obtain ⟨A', c', hf, hle, hle', _⟩ := hown.form
  injection hf with e1 e2 e3
  subst e1; subst e2; subst e3
  have htl := hT.tp.2.2.1.lt
  have hsz := hgrow.size
  have hb0 : base ≤ wr.heap.size := hT.tp.size
  obtain ⟨acc0, ho0⟩ := hT.own
  have hK : ∀ k, k < wr.heap.size → k ≠ t → v0.ownBlock ≠ some k → (w5.setCell ⟨t, 2, none⟩ (.slice A5 acc5.length c5)).heap[k]? = wr.heap[k]? := fun k hk ht hn =>
    (Below.heap_setCell _ _ _ _ ht).trans (hgrow.block k hk (fun e => hn e.symm))
  have h5 : TpC w5 t p (.pointer none) v0 := hT.tp.2.2.1.same (hgrow.block t htl (fun e => (hT.out t e.symm).2 rfl))
  have hout : ∀ k, (Value.slice A5 acc5.length c5).ownBlock = some k → ¬ Rd.S K p bb k ∧ k ≠ t := fun k hk => by
    rcases hat with h | h
    · rw [h] at hk; exact hT.out k hk
    · rw [h] at hk
      injection hk with hk
      subst hk
      exact ⟨fun e => Nat.lt_irrefl _ (Rs.S_lt hT.tp.2.2.2 _ e), fun e => by omega⟩
  have hB : Below base wr (w5.setCell ⟨t, 2, none⟩ (.slice A5 acc5.length c5)) := ((Below.refl _ _).grown hgrow hb0 (fun k hk => (ho0.lt k hk).1)).setCell (p := ⟨t, 2, none⟩) hT.tp.1 _
  have hCh : Chg (SC K t p bb v0) wr (w5.setCell ⟨t, 2, none⟩ (.slice A5 acc5.length c5)) :=
    Chg.setCell (p := ⟨t, 2, none⟩) ⟨hgrow.os, hgrow.tape, hgrow.output, hgrow.size, fun k hk hn => hgrow.block k hk (fun e => hn (.inr (.inr e.symm)))⟩ (fun _ => .inr (.inl rfl)) _
  refine ⟨A5, c5, hown.of_blocks (fun k hk _ => Below.heap_setCell _ _ _ _ (hout k hk).2), ⟨⟨hT.tp.1, hT.tp.2.1, Blk.set h5 2 _, Rs.blocks hT.tp.2.2.2 (fun k hk => hK k (Rs.S_lt hT.tp.2.2.2 k hk) (fun e => hT.tp.2.1 (e ▸ hk)) (fun e => (hT.out k e).1 hk)) hB⟩, ⟨acc5, hown.of_blocks (fun k hk _ => Below.heap_setCell _ _ _ _ (hout k hk).2)⟩, hout⟩, SC.trans hC hv hCh, ?_⟩
  rcases hat with h | h
  · rcases hv with hv | ⟨j, hv, hj⟩
    · exact .inl (h.trans hv)
    · exact .inr ⟨j, h.trans hv, hj⟩
  · exact .inr ⟨_, h, hC.size⟩
theorem CtMid.putA {K : Und} {base t p bb : Nat} {E : Nat → Addr} {gs : List Nat} {v v0 : Value} {w wr w5 : World} {A5 : Option Addr} {n5 c5 : Nat} {acc5 S1 : List UInt8} {o : Obj} (hT : Tb K base E gs t p bb v0 wr S1) (hC : Chg (SC K t p bb v) w wr) (hv : Turned v v0 w) (hap : Appended (wr.alloc o) w5 base v0 A5 n5 c5 acc5) :
    CtMid K base E gs t p bb v w (w5.setCell ⟨t, 2, none⟩ (.slice A5 n5 c5)) acc5 S1 := CtMid.put (hT.below ((Below.refl _ _).alloc (Nat.le_refl _) o)) (hC.alloc o) hv rfl hap.grown hap.own hap.at_
/-- Where the line lies: bytes of the bufio.Reader's row that have been read, a new row, or the reader's own buffer. -/
def Loc (K : Und) (base : Nat) (E : Nat → Addr) (gs : List Nat) (p bb : Nat) (v v' : Value) (w w' : World) (R : List UInt8) (A : Option Addr) (n : Nat) : Prop :=
  ∃ (B U : List UInt8) (r : Nat) (z : Bool) (lb lr : Int), Rd K base E gs p bb w' B U r z lb lr ∧ B ++ U = R ∧ ∀ a, A = some a → a.spot = none ∧ (Lies bb r a n ∨ (w.heap.size ≤ a.block ∧ v' = v ∧ ∀ i, w'.frozen? ⟨a.block, i, none⟩ = false) ∨ v'.ownBlock = some a.block)
/-- What readContinuedLineSlice leaves. -/
def ContEnd (vE : List UInt8 → Er) (K : Und) (base : Nat) (E : Nat → Addr) (gs : List Nat) (t p bb : Nat) (v : Value) (S : List UInt8) (w : World) (e : Ending) (w' : World) : Prop :=
  ∃ (v' : Value) (line R : List UInt8) (er : Er) (A : Option Addr) (c : Nat), e = .returned (.tuple #[.slice A line.length c, er.val E]) ∧ CSays vE S line er R ∧ line.length ≤ c ∧ c ≤ 9223372036854775807 ∧ RB w' A line ∧ Tb K base E gs t p bb v' w' R ∧ Chg (SC K t p bb v) w w' ∧ Turned v v' w ∧ Loc K base E gs p bb v v' w w' R A line.length
/-- 'f == nil' at a function. -/
theorem run_eql_func_nil {P : Program} (w : World) {t : TypeId} {x : Fn} {y z : Array Value} {ps rs : Array TypeId} {b : Bool} (ht : P.underlying t = some (.func ps rs b)) :
    (binOp .eql t (.func x y z) .nilFunc).run P w = .ok (.bool false) w := by
  have h : ∀ d : Nat, (Op.equalIn (d + 1) t (.func x y z) .nilFunc).run P w = .ok false w := fun d => by
    simp [Op.equalIn, run_underlying ht]
  simp only [binOp]
  simp [Op.equal, Op.maxDepth, h 9999]
/-- isASCIILetter, as it reckons. -/
def letterB (c : UInt8) : Bool := decide (97 ≤ bits BinOp.or IntKind.u8 (c.toNat : Int) 32) && decide (bits BinOp.or IntKind.u8 (c.toNat : Int) 32 ≤ 122)
theorem letter_any (c : UInt8) (w : World) : Calls Tryd.prog 71 #[.int .u8 c.toNat] w fun e w' => e = .returned (.bool (letterB c)) ∧ w = w' := by
  obtain ⟨n, hn⟩ : ∃ n, n = bits BinOp.or IntKind.u8 (c.toNat : Int) 32 := ⟨_, rfl⟩
  have hl : letterB c = (decide (97 ≤ n) && decide (n ≤ 122)) := by rw [hn]; rfl
  rw [hl]
  by_cases h1 : 97 ≤ n
  · have h1' : 97 ≤ bits BinOp.or IntKind.u8 (c.toNat : Int) 32 := by rw [← hn]; exact h1
    have HN := Lib.hid (And.intro h1 hn)
    clear hl h1 hn
    go_enter Tryd.func71, Tryd.ntmps71
    go_wp2
    go_ret
    exact ⟨by rw [decide_eq_true HN.out.1, Bool.true_and, HN.out.2]; rfl, rfl⟩
  · have h1' : ¬ 97 ≤ bits BinOp.or IntKind.u8 (c.toNat : Int) 32 := by rw [← hn]; exact h1
    have HN := Lib.hid (And.intro h1 hn)
    clear hl h1 hn
    go_enter Tryd.func71, Tryd.ntmps71
    go_wp2
    go_ret
    exact ⟨by rw [decide_eq_false (by have := HN.out.1; omega), Bool.false_and]; rfl, rfl⟩
theorem letter_blank {c : UInt8} (h : letterB c = true) : blank c = false := by
  rw [Bool.eq_false_iff]
  intro e
  rcases blank_iff.1 e with rfl | rfl
  · exact absurd h (by decide +kernel)
  · exact absurd h (by decide +kernel)
theorem RB.byte' (w : World) (b : UInt8) (t : TypeId) (g : Nat) (hg : g = w.heap.size) : RB (w.alloc (.cells #[.int .u8 b.toNat] t)) (some ⟨g, 0, none⟩) [b] := by
  subst hg
  intro _
  refine ⟨_, _, rfl, fun i u hu => ?_⟩
  rcases i with _ | i
  · simp at hu; subst hu; simp
  · simp at hu
/-- Behind the peek. -/
def PkMid (K : Und) (base : Nat) (E : Nat → Addr) (gs : List Nat) (p bb : Nat) (B U : List UInt8) (r : Nat) (A : Option Addr) (l : List UInt8) (w1 wx : World) : Prop :=
  ∃ (z : Bool) (lb lr : Int), Rd K base E gs p bb wx B U r z lb lr ∧ RB wx A l ∧ Chg (Rd.S K p bb) w1 wx
/-- The loop's relation. -/
def CtRel (K : Und) (base : Nat) (E : Nat → Addr) (gs : List Nat) (t p bb : Nat) (v : Value) (w : World) (S1 a1 : List UInt8) (N : Nat) (gk : Nat) (wr : World) : Prop :=
  ∃ acc S2, CtMid K base E gs t p bb v w wr acc S2 ∧ (∀ line er R', CLoop S2 acc line er R' → CLoop S1 a1 line er R') ∧ acc.length + S2.length ≤ N ∧ S2.length < gk
set_option maxRecDepth 200000 in
set_option maxHeartbeats 12800000 in
theorem readContinued_any {K : Und} (hK : FillOK K) {base t p bb : Nat} {E : Nat → Addr} {gs : List Nat} {v : Value} {w : World} {S : List UInt8} (h : Tb K base E gs t p bb v w S) (hg : 0 ∈ gs) (hf : 5 ∈ gs) (hS : S.length ≤ 4398046511104)
    (vf : Nat) (hcf : ∀ (a : Array Value) (w : World), (callFunc vf a).run Tryd.prog w = .ok (.enter vf a) w) (vE : List UInt8 → Er) (hvE : ∀ l, vE l = .nil ∨ ∃ s, vE l = .proto s) (hvf : ∀ (A : Option Addr) (c : Nat) (l : List UInt8) (w : World), l ≠ [] → l.length ≤ c → c ≤ 9223372036854775807 → RB w A l → Calls Tryd.prog vf #[.slice A l.length c] w fun e w' => e = .returned ((vE l).val E) ∧ Only w w')
    (lim : Int) (hlim : lim = -1 ∨ (4611686018427387904 ≤ lim ∧ lim ≤ 9223372036854775807)) :
    Calls Tryd.prog 47 #[.pointer (some ⟨t, 0, none⟩), .int .i64 lim, .func (.func vf) #[] #[]] w (ContEnd vE K base E gs t p bb v S w) := by
  obtain ⟨acc0, hov⟩ := h.own
  obtain ⟨A0, c0, rfl, hn0, hc0, _⟩ := hov.form
  clear hov
  obtain ⟨hbt, hts, hT, B, U, r, z, lb, lr, hR, hBU⟩ := h.tp
  have hrl := readLineSlice_any hK hR hg hf hT hts lim (by rw [hBU]; omega) (by rw [hBU]; omega)
  rw [hBU] at hrl
  have H := Lib.hid (And.intro h (And.intro hrl (And.intro hbt hts)))
  have hfn := fun w => run_eql_func_nil (P := Tryd.prog) w (x := .func vf) (y := #[]) (z := #[]) Tryd.underlying92
  have HV := Lib.hid (And.intro hvE (And.intro hvf hlim))
  clear h hrl hbt hts hT hR hBU hvE hvf hlim
  go_enter Tryd.func47, Tryd.ntmps47
  go_wp2_with (go_at_call 46; refine H.out.2.1.mono ?_; rintro e w1 ⟨A1, c1, l1, er1, B1, U1, r1, z1, lb1, lr1, rfl, hsay, hlc, hc, hrb, ⟨hA0, hAb⟩, hT1, hR1, hC1⟩; refine Hid.out ?_)
  have hTp1 : Tp K base E gs t p bb (.slice A0 acc0.length c0) w1 (B1 ++ U1) := ⟨H.out.2.2.1, H.out.2.2.2, hT1, B1, U1, r1, z1, lb1, lr1, hR1, rfl⟩
  have hTb1 := H.out.1.step hC1 hTp1
  have hCS : Chg (SC K t p bb (.slice A0 acc0.length c0)) w w1 := hC1.sub (fun k _ e => .inl e)
  have hse := hsay.er
  have hlocN : Loc K base E gs p bb (.slice A0 acc0.length c0) (.slice A0 acc0.length c0) w w1 (B1 ++ U1) none 0 := ⟨B1, U1, r1, z1, lb1, lr1, hR1, rfl, fun a e => by cases e⟩
  have hloc1 : Loc K base E gs p bb (.slice A0 acc0.length c0) (.slice A0 acc0.length c0) w w1 (B1 ++ U1) A1 l1.length := ⟨B1, U1, r1, z1, lb1, lr1, hR1, rfl, fun a e => ⟨(hAb a e).1, (hAb a e).2.elim .inl (fun h => .inr (.inl ⟨h.1, rfl, h.2⟩))⟩⟩
  have H1 := Lib.hid (And.intro hsay (And.intro hrb (And.intro hAb (And.intro hTb1 (And.intro hR1 (And.intro hC1 (And.intro hCS hA0)))))))
  have HL := Lib.hid (And.intro hlocN hloc1)
  refine Lib.hid ?_
  clear hsay hrb hAb hT1 hR1 hC1 hTp1 hTb1 hCS hA0 hlocN hloc1
  rcases hse with rfl | rfl
  rotate_left
  · simp only [Er.val]
    go_wp2
    go_ret2
    obtain ⟨hsay, hrb, hAb, hTb1, hR1, hC1, hCS, hA0⟩ := H1.out
    exact ⟨_, [], _, .sent 0, none, 0, rfl, .err hsay (by simp), Nat.le_refl _, by decide, RB.nil _ _, hTb1, hCS, .inl rfl, HL.out.1⟩
  simp only [Er.val]
  by_cases hl0 : l1 = []
  · subst hl0
    go_wp2
    go_ret2
    obtain ⟨hsay, hrb, hAb, hTb1, hR1, hC1, hCS, hA0⟩ := H1.out
    exact ⟨_, [], _, .nil, A1, c1, rfl, .blank hsay, hlc, hc, hrb, hTb1, hCS, .inl rfl, HL.out.2⟩
  have hlp : 0 < l1.length := List.length_pos_iff.2 hl0
  have hli : ((l1.length : Int) == 0) = false := by rw [beq_eq_false_iff_ne]; omega
  have hvc := HV.out.2.1 A1 c1 l1 w1 hl0 hlc hc H1.out.2.1
  rcases HV.out.1 l1 with hv | ⟨s, hv⟩
  rotate_left
  · rw [hv] at hvc
    simp only [Er.val] at hvc
    have HVC := Lib.hid (And.intro hvc hv)
    clear hvc hv
    go_wp2_with (refine HVC.out.1.mono ?_; rintro e wq ⟨rfl, hoq⟩; have HQ := Lib.hid hoq; clear hoq)
    go_ret2
    obtain ⟨hsay, hrb, hAb, hTb1, hR1, hC1, hCS, hA0⟩ := H1.out
    exact ⟨_, [], _, .proto s, none, 0, rfl, HVC.out.2 ▸ .bad hsay hl0 (by rw [HVC.out.2]; simp), Nat.le_refl _, by decide, RB.nil _ _, hTb1.only HQ.out, hCS.trans (HQ.out.chg _), .inl rfl, ⟨B1, U1, r1, z1, lb1, lr1, hR1.only HQ.out, rfl, fun a e => by cases e⟩⟩
  rw [hv] at hvc
  simp only [Er.val] at hvc
  have HVC := Lib.hid (And.intro hvc hv)
  clear hvc hv
  have hbf := fun w2 (h : Only w1 w2) => buffered_any (H1.out.2.2.2.2.1.only h)
  have HB := Lib.hid hbf
  clear hbf
  go_upto_if 42 with (first
    | (go_at_call 63; refine (HB.out _ HQ.out).mono ?_; rintro e w2 ⟨rfl, m2, hw2⟩; have hO2 : Only w1 w2 := (by rw [hw2]; exact HQ.out.drewN m2); have hR2 : Rd K base E gs p bb w2 B1 U1 r1 z1 lb1 lr1 := H1.out.2.2.2.2.1.only hO2; have t2 : w2.cell? ⟨t, 0, none⟩ = some (.pointer (some ⟨p, 0, none⟩)) := ((World.cell?_of_block (hO2.at_ t)).trans H1.out.2.2.2.1.tp.2.2.1.c0); clear hw2)
    | (refine HVC.out.1.mono ?_; rintro e wq ⟨rfl, hoq⟩; have HQ := Lib.hid hoq; have t0 : wq.cell? ⟨t, 0, none⟩ = some (.pointer (some ⟨p, 0, none⟩)) := ((World.cell?_of_block (hoq.at_ t)).trans H1.out.2.2.2.1.tp.2.2.1.c0); clear hoq))
  go_cut [] (fun wx => PkMid K base E gs p bb B1 U1 r1 A1 l1 w1 wx)
  case first =>
    by_cases hB2 : 2 ≤ B1.length
    · have hbi : (1 : Int) < (B1.length : Int) := by omega
      obtain ⟨b0, hb0⟩ : ∃ b, B1[0]? = some b := ⟨_, List.getElem?_eq_getElem (by omega)⟩
      obtain ⟨b1, hb1⟩ : ∃ b, B1[1]? = some b := ⟨_, List.getElem?_eq_getElem (by omega)⟩
      have HP := Lib.hid (And.intro (peek2_any hR2 hB2) (And.intro hb0 (And.intro hb1 (And.intro (show p < w.heap.size from Rs.S_lt H.out.1.tp.2.2.2 p (.inl rfl)) hO2))))
      clear hR2 hb0 hb1 hO2 t0
      go_wp2_with (go_at_call 45; refine HP.out.1.mono ?_; rintro e w3 ⟨rfl, hR3, hC3⟩; have H3 := Lib.hid (And.intro hR3 hC3); clear hR3 hC3; refine Hid.out ?_)
      have hR3 := H3.out.1
      obtain ⟨L, hL, hLB⟩ := hR3.row
      have hrb3 := hL.rb r1 B1 hLB hR3.le
      have k0 : w3.cell? ⟨bb, r1, none⟩ = some (.int .u8 b0.toNat) := hrb3.at_ 0 b0 HP.out.2.1
      have k1 : w3.cell? ⟨bb, r1 + 1, none⟩ = some (.int .u8 b1.toNat) := hrb3.at_ 1 b1 HP.out.2.2.1
      have hlet := letter_any b0 w3
      clear hR3 hL hLB hrb3
      refine Lib.hid ?_
      have hl3 : RB w3 A1 l1 := by
        have h2 : RB w2 A1 l1 := H1.out.2.1.same (fun g _ _ _ => HP.out.2.2.2.2.at_ g)
        refine h2.same (fun g o e hl => H3.out.2.block g hl (fun e2 => ?_))
        have e3 : g = p := e2
        rcases (H1.out.2.2.1 _ e).2 with h | h
        · exact H1.out.2.2.2.2.1.lay.nb (e3.symm.trans h.1)
        · have h' : w.heap.size ≤ g := h.1
          have := HP.out.2.2.2.1
          omega
      have hC13 : Chg (Rd.S K p bb) w1 w3 := (HP.out.2.2.2.2.chg _).trans (H3.out.2.sub (fun k _ e => .inl e))
      by_cases hq : letterB b0 = true ∨ (letterB b0 = false ∧ b0 = 10) ∨ (letterB b0 = false ∧ b0 = 13 ∧ b1 = 10)
      · have hnb : blank b0 = false := by
          rcases hq with h | ⟨_, rfl⟩ | ⟨_, rfl, _⟩
          · exact letter_blank h
          · rfl
          · rfl
        have HT := Lib.hid (trim_all (w := w3) hlc hc hl3 H1.out.2.2.2.2.2.2.2 (fun a e => (H1.out.2.2.1 a e).1))
        have hfin : ∀ e, TrimEnd w3 A1 l1 e → ContEnd vE K base E gs t p bb (.slice A0 acc0.length c0) S w (match e with | .returned x => .returned (.tuple #[x, .nilIface]) | e => e) w3 := by
          rintro e ⟨A4, c4, rfl, h1, h2, h3, h4⟩
          obtain ⟨hsay, hrb, hAb, hTb1, hR1, hC1, hCS, hA0⟩ := H1.out
          have hTp3 : Tp K base E gs t p bb (.slice A0 acc0.length c0) w3 (B1 ++ U1) := hTb1.tp.turn hC13 ⟨B1, U1, _, _, _, _, H3.out.1, rfl⟩
          have hst : (B1 ++ U1).takeWhile blank = [] := by
            cases hB1 : B1 with
            | nil => have := HP.out.2.1; rw [hB1] at this; cases this
            | cons a u =>
              have h0 := HP.out.2.1
              rw [hB1] at h0
              injection h0 with h0
              subst h0
              simp [hnb]
          refine ⟨_, trimB l1, _, .nil, A4, c4, rfl, .line hsay hl0 HVC.out.2 (.stop hst), h1, h2, h3, hTb1.step hC13 hTp3, hCS.trans (hC13.sub (fun k _ e => .inl e)), .inl rfl, ⟨B1, U1, r1, _, _, _, H3.out.1, rfl, fun a e => ?_⟩⟩
          obtain ⟨k1, o0, k2, k3, k4⟩ := h4 a e
          refine ⟨k1, ?_⟩
          rcases (hAb _ k2).2 with h | h
          · exact .inl ⟨h.1, fun hp => by have := h.2 hlp; have e5 : (Addr.mk a.block o0 none).off = o0 := rfl; rw [e5] at this; omega⟩
          · refine .inr (.inl ⟨h.1, rfl, fun i => ?_⟩)
            have hg1 : a.block < w1.heap.size := by
              obtain ⟨g', o', e7, hx7⟩ := hrb hl0
              rw [k2] at e7
              injection e7 with e7
              injection e7 with e8 _
              rw [e8]
              obtain ⟨c7, t7, hl7⟩ := List.exists_cons_of_ne_nil hl0
              exact World.block_lt_of_cell? _ _ (hx7 0 c7 (by rw [hl7]; rfl))
            have hap : a.block ≠ p := fun e2 => by have h8 := HP.out.2.2.2.1; have h7 : w.heap.size ≤ a.block := h.1; omega
            have e6 : w3.heap[a.block]? = w1.heap[a.block]? := (H3.out.2.block a.block (Nat.lt_of_lt_of_le hg1 (HP.out.2.2.2.2.chg (fun _ => False)).size) hap).trans (HP.out.2.2.2.2.at_ _)
            exact (World.frozen?_of_block (a := ⟨a.block, i, none⟩) e6).trans (h.2 i)
        have HF := Lib.hid hfin
        clear hfin hl3 hnb hC13
        rcases hq with hq | ⟨hq, rfl⟩ | ⟨hq, rfl, rfl⟩
        all_goals
          have HLt := Lib.hid (by have := hlet; rw [hq] at this; exact this)
          clear hlet hq
          go_wp2_with (first
            | (go_at_call 71; refine HLt.out.mono ?_; rintro e wq ⟨rfl, hq2⟩; subst hq2)
            | (go_at_call 72; refine HT.out.mono ?_; rintro e wq ⟨hte, hq2⟩; subst hq2; have HE := Lib.hid hte; obtain ⟨A4, c4, rfl, _, _, _, _⟩ := hte))
          go_ret2
          exact HF.out _ HE.out
      · have hlt0 : letterB b0 = false := by rw [Bool.eq_false_iff]; exact fun e => hq (.inl e)
        have n10 : ((b0.toNat : Int) == 10) = false := by rw [beq_eq_false_iff_ne]; exact fun e => hq (.inr (.inl ⟨hlt0, (byte_eq_iff b0 10).1 e⟩))
        have hM := Lib.hid (show PkMid K base E gs p bb B1 U1 r1 A1 l1 w1 w3 from ⟨_, _, _, H3.out.1, hl3, hC13⟩)
        by_cases h13 : b0 = 13
        · subst h13
          have n1 : ((b1.toNat : Int) == 10) = false := by rw [beq_eq_false_iff_ne]; exact fun e => hq (.inr (.inr ⟨hlt0, rfl, (byte_eq_iff b1 10).1 e⟩))
          rw [hlt0] at hlet
          have HLt := Lib.hid hlet
          clear hlet hq hl3 hC13 hlt0
          go_wp2_with (go_at_call 71; refine HLt.out.mono ?_; rintro e wq ⟨rfl, hq2⟩; subst hq2)
          go_meet
          case rel => exact hM.out
        · have n13 : ((b0.toNat : Int) == 13) = false := by rw [beq_eq_false_iff_ne]; exact fun e => h13 ((byte_eq_iff b0 13).1 e)
          rw [hlt0] at hlet
          have HLt := Lib.hid hlet
          clear hlet hq hl3 hC13 hlt0 h13
          go_wp2_with (go_at_call 71; refine HLt.out.mono ?_; rintro e wq ⟨rfl, hq2⟩; subst hq2)
          go_meet
          case rel => exact hM.out
    · have hbi : ¬ (1 : Int) < (B1.length : Int) := by omega
      have hM := Lib.hid (show PkMid K base E gs p bb B1 U1 r1 A1 l1 w1 w2 from ⟨_, _, _, hR2, H1.out.2.1.same (fun g _ _ _ => hO2.at_ g), hO2.chg _⟩)
      clear hR2 hO2 t0
      go_wp2
      go_meet
      case rel => exact hM.out
  case rest =>
    obtain ⟨z2, lb2, lr2, hR2', hrb2, hC2⟩ := hcut
    have hTb2 : Tb K base E gs t p bb (.slice A0 acc0.length c0) wc (B1 ++ U1) := H1.out.2.2.2.1.step hC2 (H1.out.2.2.2.1.tp.turn hC2 ⟨B1, U1, _, _, _, _, hR2', rfl⟩)
    have hCw : Chg (SC K t p bb (.slice A0 acc0.length c0)) w wc := H1.out.2.2.2.2.2.2.1.trans (hC2.sub (fun k _ e => .inl e))
    have m2c : wc.cell? ⟨t, 2, none⟩ = some (.slice A0 acc0.length c0) := hTb2.tp.2.2.1.c2
    have HT2 := Lib.hid (And.intro (hTb2.only (Only.refl wc).drew) (And.intro hCw.drew (show (Value.slice A0 0 c0).ownBlock = (Value.slice A0 acc0.length c0).ownBlock by cases A0 <;> rfl)))
    have HTr := Lib.hid (trim_all (w := wc.drew) hlc hc (hrb2.drewN 1) H1.out.2.2.2.2.2.2.2 (fun a e => (H1.out.2.2.1 a e).1))
    have hlS : l1.length + (B1 ++ U1).length ≤ S.length := H1.out.1.le
    have htl := trimB_le l1
    have HOE := Lib.hid (show OB wc.drew base (.slice A0 0 c0) [] ∧ ([] : List UInt8).length + (trimB l1).length ≤ 140737488355328 ∧ base ≤ wc.drew.heap.size by
      obtain ⟨acc, ho⟩ := hTb2.own
      exact ⟨ho.empty, by simp; omega, hTb2.tp.size⟩)
    clear hR2 hR2' hO2 hrb2 hC2 hTb2 hCw t0 t2
    go_upto_region 15 with (fail)
    go_cut [] (fun wx => CtMid K base E gs t p bb (.slice A0 acc0.length c0) w wx (trimB l1) (B1 ++ U1))
    case first =>
      clear hlS htl
      refine wp_region_held_drew (S := fun _ => True) (by kernel_rfl) trivial (fun hHeld => ?_)
      refine wpAnyH_take (i := 0) (v := ?v0x1) rfl (by kernel_rfl) (by kernel_rfl) (by kernel_rfl) (fun _ _ _ h => h) (Or.inl ⟨by rfl, ?h0x1⟩) trivial ?r0x1
      case h0x1 => (intro w hSw; (try dsimp only at hSw); go_simp; (try with_reducible rfl))
      (try simp only [List.getElem_toArray, List.getElem_cons_zero, Act.put, List.setIfInBounds_toArray, List.set_cons_zero, List.set_cons_succ])
      refine wpAnyH_take (i := 1) (v := ?v1x2) rfl (by kernel_rfl) (by kernel_rfl) (by kernel_rfl) (fun _ _ _ h => h) (Or.inl ⟨by rfl, ?h1x2⟩) trivial ?r1x2
      case h1x2 => (intro w hSw; (try dsimp only at hSw); go_simp; (try with_reducible rfl))
      (try simp only [List.getElem_toArray, List.getElem_cons_succ, List.getElem_cons_zero, Act.put, List.setIfInBounds_toArray, List.set_cons_zero, List.set_cons_succ])
      refine wpAnyH_take (i := 2) (v := ?v2x3) rfl (by kernel_rfl) (by kernel_rfl) (by kernel_rfl) (fun _ _ _ h => h) (Or.inl ⟨by rfl, ?h2x3⟩) trivial ?r2x3
      case h2x3 => (intro w hSw; (try dsimp only at hSw); go_simp; (try with_reducible rfl))
      (try simp only [List.getElem_toArray, List.getElem_cons_succ, List.getElem_cons_zero, Act.put, List.setIfInBounds_toArray, List.set_cons_zero, List.set_cons_succ])
      refine wpAnyH_take (i := 3) (v := ?v3x4) rfl (by kernel_rfl) (by kernel_rfl) (by kernel_rfl) (fun _ _ _ h => h) (Or.inl ⟨by rfl, ?h3x4⟩) trivial ?r3x4
      case h3x4 => (intro w hSw; (try dsimp only at hSw); go_simp; (try with_reducible rfl))
      (try simp only [List.getElem_toArray, List.getElem_cons_succ, List.getElem_cons_zero, Act.put, List.setIfInBounds_toArray, List.set_cons_zero, List.set_cons_succ])
      refine wpAnyH_take (i := 6) (v := ?v6x5) rfl (by kernel_rfl) (by kernel_rfl) (by kernel_rfl) (fun _ _ _ h => h) (Or.inl ⟨by rfl, ?h6x5⟩) trivial ?r6x5
      case h6x5 => (intro w hSw; (try dsimp only at hSw); go_simp; (try with_reducible rfl))
      (try simp only [List.getElem_toArray, List.getElem_cons_succ, List.getElem_cons_zero, Act.put, List.setIfInBounds_toArray, List.set_cons_zero, List.set_cons_succ])
      refine wpAnyH_ready (rs := [4, 7]) (by kernel_rfl) (by simp) ?_
      refine AllReadyH.cons rfl (fun K hK => ?_) (AllReadyH.cons rfl (fun K hK => ?_) AllReadyH.nil)
      · go_simp
        refine hK.out _ _ trivial (fun _ => ?_)
        clear hK K
        (try simp only [List.getElem_toArray, List.getElem_cons_succ, List.getElem_cons_zero, Act.put, List.setIfInBounds_toArray, List.set_cons_zero, List.set_cons_succ])
        refine wpAnyH_take (i := 5) (v := ?v5x6) rfl (by kernel_rfl) (by kernel_rfl) (by kernel_rfl) (fun _ _ _ h => h) (Or.inl ⟨by rfl, ?h5x6⟩) trivial ?r5x6
        case h5x6 => (intro w hSw; (try dsimp only at hSw); go_simp; (try with_reducible rfl))
        (try simp only [List.getElem_toArray, List.getElem_cons_succ, List.getElem_cons_zero, Act.put, List.setIfInBounds_toArray, List.set_cons_zero, List.set_cons_succ])
        refine wpAnyH_ready (rs := [7]) (by kernel_rfl) (by simp) ?_
        refine AllReadyH.cons rfl (fun K hK => ?_) AllReadyH.nil
        go_simp
        go_wp2_with (go_at_call 72; refine HTr.out.mono ?_; rintro e wq ⟨⟨A4, c4, rfl, hl4, hc4, hrb4, hA4⟩, hq2⟩; subst hq2)
        refine hK.out _ _ trivial (fun _ => ?_)
        clear hK K
        (try simp only [List.getElem_toArray, List.getElem_cons_succ, List.getElem_cons_zero, Act.put, List.setIfInBounds_toArray, List.set_cons_zero, List.set_cons_succ])
        obtain ⟨v5, w5, hrun, hown5, hgrow5, hat5⟩ := run_append_B 23 wc.drew base (.slice A0 0 c0) [] HOE.out.1 A4 (trimB l1) c4 hrb4 HOE.out.2.1 HOE.out.2.2
        rw [List.nil_append] at hown5
        obtain ⟨A5, c5, rfl, hn5, hc5, hr5⟩ := hown5.form
        have HR5 := Lib.hid (And.intro hown5 (And.intro hgrow5 (And.intro hat5 hrun)))
        have hT5 : TpC w5 t p (.pointer none) (.slice A0 acc0.length c0) := HT2.out.1.tp.2.2.1.same (hgrow5.block t HT2.out.1.tp.2.2.1.lt (fun e => (HT2.out.1.out t (HT2.out.2.2.symm.trans e.symm)).2 rfl))
        have e2 : w5.cell? ⟨t, 2, none⟩ = some (.slice A0 acc0.length c0) := Blk.cell hT5 2
        have f2 : w5.frozen? ⟨t, 2, none⟩ = false := Blk.free hT5 2
        clear hl4 hc4 hrb4 hA4 hown5 hgrow5 hat5 hrun hT5 hr5
        refine wpAnyH_ready (rs := [8]) (by kernel_rfl) (by simp) ?_
        refine AllReadyH.cons rfl (fun K hK => ?_) AllReadyH.nil
        rw [if_pos (by rfl)]
        refine Lib.wp_append_run _ (.tmp 90) (.tmp 92) 23 23 rfl _ _ rfl rfl _ _ HR5.out.2.2.2 ?_
        refine hK.out _ _ trivial (fun _ => ?_)
        clear hK K
        (try simp only [List.getElem_toArray, List.getElem_cons_succ, List.getElem_cons_zero, Act.put, List.setIfInBounds_toArray, List.set_cons_zero, List.set_cons_succ])
        refine wpAnyH_take (i := 9) (v := ?v9x7) rfl (by kernel_rfl) (by kernel_rfl) (by kernel_rfl) (fun _ _ _ h => h) (Or.inl ⟨by rfl, ?h9x7⟩) trivial ?r9x7
        case h9x7 => (intro w hSw; (try dsimp only at hSw); go_simp; (try with_reducible rfl))
        (try simp only [List.getElem_toArray, List.getElem_cons_succ, List.getElem_cons_zero, Act.put, List.setIfInBounds_toArray, List.set_cons_zero, List.set_cons_succ])
        refine wpAnyH_take (i := 10) (v := ?v10x8) rfl (by kernel_rfl) (by kernel_rfl) (by kernel_rfl) (fun _ _ _ h => h) (Or.inl ⟨by rfl, ?h10x8⟩) trivial ?r10x8
        case h10x8 => (intro w hSw; (try dsimp only at hSw); go_simp; (try with_reducible rfl))
        (try simp only [List.getElem_toArray, List.getElem_cons_succ, List.getElem_cons_zero, Act.put, List.setIfInBounds_toArray, List.set_cons_zero, List.set_cons_succ])
        refine wpAnyH_ready (rs := [11]) (by kernel_rfl) (by simp) ?_
        refine AllReadyH.cons rfl (fun K hK => ?_) AllReadyH.nil
        go_simp
        refine hK.out _ _ trivial (fun _ => ?_)
        clear hK K
        (try simp only [List.getElem_toArray, List.getElem_cons_succ, List.getElem_cons_zero, Act.put, List.setIfInBounds_toArray, List.set_cons_zero, List.set_cons_succ])
        refine wpAnyH_done (by kernel_rfl) ?_ _
        go_wp2
        go_meet
        case rel => exact CtMid.put HT2.out.1 HT2.out.2.1 (.inl rfl) HT2.out.2.2 HR5.out.2.1 HR5.out.1 HR5.out.2.2.1
      · go_simp
        go_wp2_with (go_at_call 72; refine HTr.out.mono ?_; rintro e wq ⟨⟨A4, c4, rfl, hl4, hc4, hrb4, hA4⟩, hq2⟩; subst hq2)
        refine hK.out _ _ trivial (fun _ => ?_)
        clear hK K
        (try simp only [List.getElem_toArray, List.getElem_cons_succ, List.getElem_cons_zero, Act.put, List.setIfInBounds_toArray, List.set_cons_zero, List.set_cons_succ])
        refine wpAnyH_ready (rs := [4]) (by kernel_rfl) (by simp) ?_
        refine AllReadyH.cons rfl (fun K hK => ?_) AllReadyH.nil
        go_simp
        refine hK.out _ _ trivial (fun _ => ?_)
        clear hK K
        (try simp only [List.getElem_toArray, List.getElem_cons_succ, List.getElem_cons_zero, Act.put, List.setIfInBounds_toArray, List.set_cons_zero, List.set_cons_succ])
        refine wpAnyH_take (i := 5) (v := ?v5x9) rfl (by kernel_rfl) (by kernel_rfl) (by kernel_rfl) (fun _ _ _ h => h) (Or.inl ⟨by rfl, ?h5x9⟩) trivial ?r5x9
        case h5x9 => (intro w hSw; (try dsimp only at hSw); go_simp; (try with_reducible rfl))
        (try simp only [List.getElem_toArray, List.getElem_cons_succ, List.getElem_cons_zero, Act.put, List.setIfInBounds_toArray, List.set_cons_zero, List.set_cons_succ])
        obtain ⟨v5, w5, hrun, hown5, hgrow5, hat5⟩ := run_append_B 23 wc.drew base (.slice A0 0 c0) [] HOE.out.1 A4 (trimB l1) c4 hrb4 HOE.out.2.1 HOE.out.2.2
        rw [List.nil_append] at hown5
        obtain ⟨A5, c5, rfl, hn5, hc5, hr5⟩ := hown5.form
        have HR5 := Lib.hid (And.intro hown5 (And.intro hgrow5 (And.intro hat5 hrun)))
        have hT5 : TpC w5 t p (.pointer none) (.slice A0 acc0.length c0) := HT2.out.1.tp.2.2.1.same (hgrow5.block t HT2.out.1.tp.2.2.1.lt (fun e => (HT2.out.1.out t (HT2.out.2.2.symm.trans e.symm)).2 rfl))
        have e2 : w5.cell? ⟨t, 2, none⟩ = some (.slice A0 acc0.length c0) := Blk.cell hT5 2
        have f2 : w5.frozen? ⟨t, 2, none⟩ = false := Blk.free hT5 2
        clear hl4 hc4 hrb4 hA4 hown5 hgrow5 hat5 hrun hT5 hr5
        refine wpAnyH_ready (rs := [8]) (by kernel_rfl) (by simp) ?_
        refine AllReadyH.cons rfl (fun K hK => ?_) AllReadyH.nil
        rw [if_pos (by rfl)]
        refine Lib.wp_append_run _ (.tmp 90) (.tmp 92) 23 23 rfl _ _ rfl rfl _ _ HR5.out.2.2.2 ?_
        refine hK.out _ _ trivial (fun _ => ?_)
        clear hK K
        (try simp only [List.getElem_toArray, List.getElem_cons_succ, List.getElem_cons_zero, Act.put, List.setIfInBounds_toArray, List.set_cons_zero, List.set_cons_succ])
        refine wpAnyH_take (i := 9) (v := ?v9x10) rfl (by kernel_rfl) (by kernel_rfl) (by kernel_rfl) (fun _ _ _ h => h) (Or.inl ⟨by rfl, ?h9x10⟩) trivial ?r9x10
        case h9x10 => (intro w hSw; (try dsimp only at hSw); go_simp; (try with_reducible rfl))
        (try simp only [List.getElem_toArray, List.getElem_cons_succ, List.getElem_cons_zero, Act.put, List.setIfInBounds_toArray, List.set_cons_zero, List.set_cons_succ])
        refine wpAnyH_take (i := 10) (v := ?v10x11) rfl (by kernel_rfl) (by kernel_rfl) (by kernel_rfl) (fun _ _ _ h => h) (Or.inl ⟨by rfl, ?h10x11⟩) trivial ?r10x11
        case h10x11 => (intro w hSw; (try dsimp only at hSw); go_simp; (try with_reducible rfl))
        (try simp only [List.getElem_toArray, List.getElem_cons_succ, List.getElem_cons_zero, Act.put, List.setIfInBounds_toArray, List.set_cons_zero, List.set_cons_succ])
        refine wpAnyH_ready (rs := [11]) (by kernel_rfl) (by simp) ?_
        refine AllReadyH.cons rfl (fun K hK => ?_) AllReadyH.nil
        go_simp
        refine hK.out _ _ trivial (fun _ => ?_)
        clear hK K
        (try simp only [List.getElem_toArray, List.getElem_cons_succ, List.getElem_cons_zero, Act.put, List.setIfInBounds_toArray, List.set_cons_zero, List.set_cons_succ])
        refine wpAnyH_done (by kernel_rfl) ?_ _
        go_wp2
        go_meet
        case rel => exact CtMid.put HT2.out.1 HT2.out.2.1 (.inl rfl) HT2.out.2.2 HR5.out.2.1 HR5.out.1 HR5.out.2.2.1
    case rest =>
      have HC0 := Lib.hid hcut
      clear hcut m2c HT2 HTr HOE
      go_upto_if 97 with (fail)
      go_cut [1] (fun u1 wx => ∃ L : Int, u1 = .int .i64 L ∧ 4611686018427387904 ≤ L ∧ L ≤ 9223372036854775807 ∧ wx = wc)
      case first =>
        rcases HV.out.2.2 with h | ⟨h1, h2⟩
        · subst h
          go_wp2
          go_meet
          case rel => exact ⟨9223372036854775807, rfl, by decide, by decide, rfl⟩
        · go_wp2
          go_meet
          case rel => exact ⟨lim, rfl, h1, h2, rfl⟩
      case rest =>
        obtain ⟨L, rfl, hL1, hL2, hwc⟩ := hcut
        subst hwc
        obtain ⟨A5, c5, ho5, hT5, hC5, hv5⟩ := HC0.out
        have t5 : wc.cell? ⟨t, 2, none⟩ = some (.slice A5 (trimB l1).length c5) := hT5.tp.2.2.1.c2
        generalize hn5 : (trimB l1).length = n5 at *
        have h5 : (n5 : Int) ≤ 4398046511104 := by omega
        have HN5 := Lib.hid (And.intro hn5 (And.intro hlS htl))
        clear ho5 hT5 hC5 hv5 hn5 hlS htl
        go_wp2
        generalize hL2e : L - (n5 : Int) = L2
        have hL2 : 4611600000000000000 ≤ L2 := by omega
        have hL3 : L2 ≤ 9223372036854775807 := by omega
        clear hL2e hL1 t5 h5
        go_loopg [] (S.length + 1) (fun gk wr => CtRel K base E gs t p bb (.slice A0 acc0.length c0) w (B1 ++ U1) (trimB l1) S.length gk wr)
        case atStart => exact ⟨_, _, HC0.out, fun _ _ _ h => h, by have := HN5.out; omega, by have := HN5.out; omega⟩
        case round =>
          obtain ⟨acc, S2, ⟨A, c, ho, hT, hC, hv⟩, hcl, hN, hgk⟩ := hrel
          have t0 : wr.cell? ⟨t, 0, none⟩ = some (.pointer (some ⟨p, 0, none⟩)) := hT.tp.2.2.1.c0
          have hsk := skipSpace_any hK hT.tp hg (by omega)
          have htw := takeWhile_add blank S2
          obtain ⟨n, hn⟩ : ∃ n, n = (S2.takeWhile blank).length := ⟨_, rfl⟩
          obtain ⟨S3, hS3⟩ : ∃ S3, S3 = S2.dropWhile blank := ⟨_, rfl⟩
          rw [← hn, ← hS3] at hsk htw
          have HK := Lib.hid (And.intro ho (And.intro hT (And.intro hC (And.intro hv (And.intro hcl hN)))))
          have HS := Lib.hid (And.intro hsk (And.intro hn (And.intro hS3 (And.intro htw hgk))))
          clear ho hT hC hv hcl hN hgk hsk hn hS3 htw HC0
          rcases Nat.eq_zero_or_pos n with h0 | hpos
          · subst h0
            go_wp2_with (go_at_call 73; refine HS.out.1.mono ?_; rintro e w2 ⟨rfl, hT2, hC2⟩; have e2 : w2.cell? ⟨t, 2, none⟩ = some (.slice A acc.length c) := hT2.2.2.1.c2; have e0 : w2.cell? ⟨t, 0, none⟩ = some (.pointer (some ⟨p, 0, none⟩)) := hT2.2.2.1.c0; have H2 := Lib.hid (And.intro hT2 hC2); clear hT2 hC2)
            go_ret2
            obtain ⟨ho, hT, hC, hv, hcl, hN⟩ := HK.out
            obtain ⟨hsk, hn, hS3, htw, hgk⟩ := HS.out
            obtain ⟨hT2, hC2⟩ := H2.out
            have htk : S2.takeWhile blank = [] := List.eq_nil_of_length_eq_zero hn.symm
            have hTb := hT.step hC2 hT2
            have hob : OB w2 base (.slice A acc.length c) acc := ho.of_blocks (fun k hk hl => hC2.block k hl (hT.out k hk).1)
            obtain ⟨A', c', hf, k1, k2, k3⟩ := hob.form
            injection hf with e1 e2 e3
            subst e1; subst e3
            have hse : S3 = S2 := by
              have := List.takeWhile_append_dropWhile (p := blank) (l := S2)
              rw [htk, ← hS3, List.nil_append] at this
              exact this
            subst hse
            obtain ⟨Bx, Ux, rx, zx, lbx, lrx, hRx, hBx⟩ := hT2.2.2.2
            exact ⟨_, acc, S3, .nil, A, c, rfl, .line H1.out.1 hl0 HVC.out.2 (hcl _ _ _ (.stop htk)), k1, k2, k3, hTb, hC.trans (SC.sub hv hC2), hv, ⟨Bx, Ux, rx, zx, lbx, lrx, hRx, hBx, fun a ea => ⟨(hob.place a ea).1, .inr (.inr (by rw [ea]; rfl))⟩⟩⟩
          · have hpi : (0 : Int) < (n : Int) := by omega
            go_upto_region 20 with (go_at_call 73; refine HS.out.1.mono ?_; rintro e w2 ⟨rfl, hT2, hC2⟩; have e2 : w2.cell? ⟨t, 2, none⟩ = some (.slice A acc.length c) := hT2.2.2.1.c2; have e0 : w2.cell? ⟨t, 0, none⟩ = some (.pointer (some ⟨p, 0, none⟩)) := hT2.2.2.1.c0; have H2 := Lib.hid (And.intro hT2 hC2); clear hT2 hC2)
            obtain ⟨acc3, hacc3⟩ : ∃ acc3, acc3 = acc ++ [32] := ⟨_, rfl⟩
            have ha3 : acc3.length = acc.length + 1 := by rw [hacc3, List.length_append]; rfl
            have hal : acc.length ≤ 4398046511104 := by have := HK.out.2.2.2.2.2; omega
            have HA3 := Lib.hid hacc3
            clear hacc3
            go_cut [] (fun wx => CtMid K base E gs t p bb (.slice A0 acc0.length c0) w wx acc3 S3)
            case first =>
              have hTb := Lib.hid (HK.out.2.1.step H2.out.2 H2.out.1)
              have hob := Lib.hid (HK.out.1.of_blocks (w' := w2) (fun k hk hl => H2.out.2.block k hl (HK.out.2.1.out k hk).1))
              go_wp2_with ((with_reducible refine at_appendB ?_); refine wpList_append_B rfl (.tmp 112) (.tmp 113) rfl base (.slice A acc.length c) acc rfl (hob.out.alloc _) (some ⟨w2.heap.size, 0, none⟩) [32] 1 1 rfl rfl (RB.byte' w2 32 _ _ rfl) (by simp; omega) (by rw [World.size_alloc]; have := hTb.out.tp.size; omega) (acc.length + 1) rfl acc3 HA3.out ?_; intro A3 c3 w3 hap; have hT3 : TpC w3 t p (.pointer none) (.slice A acc.length c) := (((hTb.out.below ((Below.refl _ _).alloc (Nat.le_refl _) _)).tp.2.2.1).same (hap.grown.block t (by rw [World.size_alloc]; have := hTb.out.tp.2.2.1.lt; omega) (fun e => (hTb.out.out t e.symm).2 rfl))); have g0 := hT3.c2; have g1 := hT3.f 2; have HP := Lib.hid hap; clear hap hT3)
              go_meet
              case rel =>
                exact CtMid.putA hTb.out (HK.out.2.2.1.trans (SC.sub HK.out.2.2.2.1 H2.out.2)) HK.out.2.2.2.1 HP.out
            case rest =>
              obtain ⟨A3, c3, ho3, hT3, hC3, hv3⟩ := hcut
              have f0 : wc.cell? ⟨t, 2, none⟩ = some (.slice A3 acc3.length c3) := hT3.tp.2.2.1.c2
              obtain ⟨_, _, hT3c, Bq, Uq, rq, zq, lbq, lrq, hRq, hBq⟩ := hT3.tp
              have hSl : S3.length + n ≤ S2.length := by have := HS.out.2.2.2.1; omega
              have hN0 := HK.out.2.2.2.2.2
              have hrl := fun (x : Int) (hx : ((Bq ++ Uq).length : Int) ≤ x) => readLineSlice_any hK hRq hg hf hT3c hT3.tp.2.1 x (.inr hx) (by rw [hBq]; omega)
              rw [hBq] at hrl
              have HRL := Lib.hid (And.intro hrl (And.intro ho3 (And.intro hT3 (And.intro hC3 hv3))))
              have hlt : ¬ L2 ≤ (acc3.length : Int) := by omega
              have hS3i : (S3.length : Int) ≤ 4398046511104 := by omega
              have ha3i : (acc3.length : Int) ≤ 4398046511105 := by omega
              have HN3 := Lib.hid (And.intro hSl (And.intro hN0 ha3))
              clear hrl ho3 hT3 hC3 hv3 hT3c hRq hBq hSl hN0 ha3 hal e2 e0 t0
              go_wp2_with (go_at_call 46; refine (HRL.out.1 _ (by first | omega | (rw [IntKind.wrap_i64]; omega))).mono ?_; rintro e w4 ⟨A4, c4, l2, er2, B5, U5, r5, z5, lb5, lr5, rfl, hsay2, hlc2, hc2, hrb2, ⟨hA20, hA2b⟩, hT4, hR4, hC4⟩; refine Hid.out ?_)
              have hse2 := hsay2.er
              have hle2 := hsay2.le
              have hTp4 : Tp K base E gs t p bb (.slice A3 acc3.length c3) w4 (B5 ++ U5) := ⟨HRL.out.2.2.1.tp.1, HRL.out.2.2.1.tp.2.1, hT4, B5, U5, r5, z5, lb5, lr5, hR4, rfl⟩
              have hTb4 := HRL.out.2.2.1.step hC4 hTp4
              have hC4w := HRL.out.2.2.2.1.trans (SC.sub HRL.out.2.2.2.2 hC4)
              have hcl2 : ∀ line er R', er2 = .nil → CLoop (B5 ++ U5) (acc3 ++ trimB l2) line er R' → CLoop (B1 ++ U1) (trimB l1) line er R' := fun line er R' he h => by
                obtain ⟨ho, hT, hC, hv, hcl, hN⟩ := HK.out
                obtain ⟨hsk, hn, hS3, htw, hgk⟩ := HS.out
                refine hcl _ _ _ (.go (l := l2) (R := B5 ++ U5) (fun e => by rw [e] at hn; simp at hn; omega) (by rw [← hS3, ← he]; exact hsay2) ?_)
                rw [HA3.out] at h
                simpa using h
              have hcut2 : er2 ≠ .nil → CLoop (B1 ++ U1) (trimB l1) [] er2 (B5 ++ U5) := fun he => by
                obtain ⟨ho, hT, hC, hv, hcl, hN⟩ := HK.out
                obtain ⟨hsk, hn, hS3, htw, hgk⟩ := HS.out
                exact hcl _ _ _ (.cut (l := l2) (fun e => by rw [e] at hn; simp at hn; omega) (by rw [← hS3]; exact hsay2) he)
              have H4 := Lib.hid (And.intro hTb4 (And.intro hC4w (And.intro hcl2 (And.intro hcut2 (And.intro hR4 (fun k (hk : (Value.slice A3 acc3.length c3).ownBlock = some k) hl => hC4.block k hl (HRL.out.2.2.1.out k hk).1))))))
              clear hsay2 hTp4 hTb4 hC4w hcl2 hcut2 hC4 hR4
              refine Lib.hid ?_
              rcases hse2 with rfl | rfl
              rotate_left
              · simp only [Er.val]
                clear hrb2 hA20 hA2b hle2
                go_wp2
                go_ret2
                obtain ⟨hTb4, hC4w, hcl2, hcut2, hR4, _⟩ := H4.out
                exact ⟨_, [], _, .sent 0, none, 0, rfl, .line H1.out.1 hl0 HVC.out.2 (hcut2 (by simp)), Nat.le_refl _, by decide, RB.nil _ _, hTb4, hC4w, HRL.out.2.2.2.2, ⟨_, _, _, _, _, _, hR4, rfl, fun a e => by cases e⟩⟩
              simp only [Er.val]
              have m4c : w4.cell? ⟨t, 2, none⟩ = some (.slice A3 acc3.length c3) := hT4.c2
              have HT2 := Lib.hid (And.intro (H4.out.1.only (Only.refl w4).drew) (And.intro H4.out.2.1.drew (show (Value.slice A3 acc3.length c3).ownBlock = (Value.slice A3 acc3.length c3).ownBlock from rfl)))
              have HTr := Lib.hid (trim_all (w := w4.drew) hlc2 hc2 (hrb2.drewN 1) hA20 (fun a e => (hA2b a e).1))
              have htl2 := trimB_le l2
              have HOE := Lib.hid (show OB w4.drew base (.slice A3 acc3.length c3) acc3 ∧ acc3.length + (trimB l2).length ≤ 140737488355328 ∧ base ≤ w4.drew.heap.size from ⟨HRL.out.2.1.of_blocks (w' := w4) (fun k hk hl => H4.out.2.2.2.2.2 k hk hl), by have := HN3.out; omega, H4.out.1.tp.size⟩)
              have HM := Lib.hid (show (B5 ++ U5).length + 1 < gk ∧ Turned (.slice A0 acc0.length c0) (.slice A3 acc3.length c3) w ∧ ∀ wx, CtMid K base E gs t p bb (.slice A0 acc0.length c0) w wx (acc3 ++ trimB l2) (B5 ++ U5) → CtRel K base E gs t p bb (.slice A0 acc0.length c0) w (B1 ++ U1) (trimB l1) S.length ((B5 ++ U5).length + 1) wx from
                ⟨by have := HS.out.2.2.2.1; have := HS.out.2.2.2.2; omega, HRL.out.2.2.2.2, fun wx hm => ⟨_, _, hm, fun line er R' h => H4.out.2.2.1 line er R' rfl h, by have := HN3.out; rw [List.length_append]; omega, Nat.lt_succ_self _⟩⟩)
              clear hrb2 hA20 hA2b hle2 htl2 hT4
              go_wp2
              refine wp_region_held_drew (S := fun _ => True) (by kernel_rfl) trivial (fun hHeld => ?_)
              refine wpAnyH_take (i := 0) (v := ?v0x12) rfl (by kernel_rfl) (by kernel_rfl) (by kernel_rfl) (fun _ _ _ h => h) (Or.inl ⟨by rfl, ?h0x12⟩) trivial ?r0x12
              case h0x12 => (intro w hSw; (try dsimp only at hSw); go_simp; (try with_reducible rfl))
              (try simp only [List.getElem_toArray, List.getElem_cons_zero, Act.put, List.setIfInBounds_toArray, List.set_cons_zero, List.set_cons_succ])
              refine wpAnyH_take (i := 1) (v := ?v1x13) rfl (by kernel_rfl) (by kernel_rfl) (by kernel_rfl) (fun _ _ _ h => h) (Or.inl ⟨by rfl, ?h1x13⟩) trivial ?r1x13
              case h1x13 => (intro w hSw; (try dsimp only at hSw); go_simp; (try with_reducible rfl))
              (try simp only [List.getElem_toArray, List.getElem_cons_succ, List.getElem_cons_zero, Act.put, List.setIfInBounds_toArray, List.set_cons_zero, List.set_cons_succ])
              refine wpAnyH_take (i := 2) (v := ?v2x14) rfl (by kernel_rfl) (by kernel_rfl) (by kernel_rfl) (fun _ _ _ h => h) (Or.inl ⟨by rfl, ?h2x14⟩) trivial ?r2x14
              case h2x14 => (intro w hSw; (try dsimp only at hSw); go_simp; (try with_reducible rfl))
              (try simp only [List.getElem_toArray, List.getElem_cons_succ, List.getElem_cons_zero, Act.put, List.setIfInBounds_toArray, List.set_cons_zero, List.set_cons_succ])
              refine wpAnyH_take (i := 3) (v := ?v3x15) rfl (by kernel_rfl) (by kernel_rfl) (by kernel_rfl) (fun _ _ _ h => h) (Or.inl ⟨by rfl, ?h3x15⟩) trivial ?r3x15
              case h3x15 => (intro w hSw; (try dsimp only at hSw); go_simp; (try with_reducible rfl))
              (try simp only [List.getElem_toArray, List.getElem_cons_succ, List.getElem_cons_zero, Act.put, List.setIfInBounds_toArray, List.set_cons_zero, List.set_cons_succ])
              refine wpAnyH_take (i := 5) (v := ?v5x16) rfl (by kernel_rfl) (by kernel_rfl) (by kernel_rfl) (fun _ _ _ h => h) (Or.inl ⟨by rfl, ?h5x16⟩) trivial ?r5x16
              case h5x16 => (intro w hSw; (try dsimp only at hSw); go_simp; (try with_reducible rfl))
              (try simp only [List.getElem_toArray, List.getElem_cons_succ, List.getElem_cons_zero, Act.put, List.setIfInBounds_toArray, List.set_cons_zero, List.set_cons_succ])
              refine wpAnyH_ready (rs := [4, 6]) (by kernel_rfl) (by simp) ?_
              refine AllReadyH.cons rfl (fun K hK => ?_) (AllReadyH.cons rfl (fun K hK => ?_) AllReadyH.nil)
              · go_simp
                refine hK.out _ _ trivial (fun _ => ?_)
                clear hK K
                (try simp only [List.getElem_toArray, List.getElem_cons_succ, List.getElem_cons_zero, Act.put, List.setIfInBounds_toArray, List.set_cons_zero, List.set_cons_succ])
                refine wpAnyH_ready (rs := [6]) (by kernel_rfl) (by simp) ?_
                refine AllReadyH.cons rfl (fun K hK => ?_) AllReadyH.nil
                go_simp
                go_wp2_with (go_at_call 72; refine HTr.out.mono ?_; rintro e wq ⟨⟨A4, c4, rfl, hl4, hc4, hrb4, hA4⟩, hq2⟩; subst hq2)
                refine hK.out _ _ trivial (fun _ => ?_)
                clear hK K
                (try simp only [List.getElem_toArray, List.getElem_cons_succ, List.getElem_cons_zero, Act.put, List.setIfInBounds_toArray, List.set_cons_zero, List.set_cons_succ])
                obtain ⟨v5, w5, hrun, hown5, hgrow5, hat5⟩ := run_append_B 23 w4.drew base (.slice A3 acc3.length c3) acc3 HOE.out.1 A4 (trimB l2) c4 hrb4 HOE.out.2.1 HOE.out.2.2
                obtain ⟨A5, c5, rfl, hn5, hc5, hr5⟩ := hown5.form
                have HR5 := Lib.hid (And.intro hown5 (And.intro hgrow5 (And.intro hat5 hrun)))
                have hT5 : TpC w5 t p (.pointer none) (.slice A3 acc3.length c3) := HT2.out.1.tp.2.2.1.same (hgrow5.block t HT2.out.1.tp.2.2.1.lt (fun e => (HT2.out.1.out t e.symm).2 rfl))
                have e2 : w5.cell? ⟨t, 2, none⟩ = some (.slice A3 acc3.length c3) := Blk.cell hT5 2
                have f2 : w5.frozen? ⟨t, 2, none⟩ = false := Blk.free hT5 2
                clear hl4 hc4 hrb4 hA4 hown5 hgrow5 hat5 hrun hT5 hr5
                refine wpAnyH_ready (rs := [7]) (by kernel_rfl) (by simp) ?_
                refine AllReadyH.cons rfl (fun K hK => ?_) AllReadyH.nil
                rw [if_pos (by rfl)]
                refine Lib.wp_append_run _ (.tmp 144) (.tmp 146) 23 23 rfl _ _ rfl rfl _ _ HR5.out.2.2.2 ?_
                refine hK.out _ _ trivial (fun _ => ?_)
                clear hK K
                (try simp only [List.getElem_toArray, List.getElem_cons_succ, List.getElem_cons_zero, Act.put, List.setIfInBounds_toArray, List.set_cons_zero, List.set_cons_succ])
                refine wpAnyH_take (i := 8) (v := ?v8x17) rfl (by kernel_rfl) (by kernel_rfl) (by kernel_rfl) (fun _ _ _ h => h) (Or.inl ⟨by rfl, ?h8x17⟩) trivial ?r8x17
                case h8x17 => (intro w hSw; (try dsimp only at hSw); go_simp; (try with_reducible rfl))
                (try simp only [List.getElem_toArray, List.getElem_cons_succ, List.getElem_cons_zero, Act.put, List.setIfInBounds_toArray, List.set_cons_zero, List.set_cons_succ])
                refine wpAnyH_take (i := 9) (v := ?v9x18) rfl (by kernel_rfl) (by kernel_rfl) (by kernel_rfl) (fun _ _ _ h => h) (Or.inl ⟨by rfl, ?h9x18⟩) trivial ?r9x18
                case h9x18 => (intro w hSw; (try dsimp only at hSw); go_simp; (try with_reducible rfl))
                (try simp only [List.getElem_toArray, List.getElem_cons_succ, List.getElem_cons_zero, Act.put, List.setIfInBounds_toArray, List.set_cons_zero, List.set_cons_succ])
                refine wpAnyH_ready (rs := [10]) (by kernel_rfl) (by simp) ?_
                refine AllReadyH.cons rfl (fun K hK => ?_) AllReadyH.nil
                go_simp
                refine hK.out _ _ trivial (fun _ => ?_)
                clear hK K
                (try simp only [List.getElem_toArray, List.getElem_cons_succ, List.getElem_cons_zero, Act.put, List.setIfInBounds_toArray, List.set_cons_zero, List.set_cons_succ])
                refine wpAnyH_done (by kernel_rfl) ?_ _
                go_wp2
                go_roundg ((B5 ++ U5).length + 1)
                case measure => exact HM.out.1
                case rel => exact HM.out.2.2 _ (CtMid.put HT2.out.1 HT2.out.2.1 HM.out.2.1 rfl HR5.out.2.1 (by have h := HR5.out.1; simp only [List.length_append] at h; exact h) (by have h := HR5.out.2.2.1; simp only [List.length_append] at h; exact h))
              · go_simp
                go_wp2_with (go_at_call 72; refine HTr.out.mono ?_; rintro e wq ⟨⟨A4, c4, rfl, hl4, hc4, hrb4, hA4⟩, hq2⟩; subst hq2)
                refine hK.out _ _ trivial (fun _ => ?_)
                clear hK K
                (try simp only [List.getElem_toArray, List.getElem_cons_succ, List.getElem_cons_zero, Act.put, List.setIfInBounds_toArray, List.set_cons_zero, List.set_cons_succ])
                refine wpAnyH_ready (rs := [4]) (by kernel_rfl) (by simp) ?_
                refine AllReadyH.cons rfl (fun K hK => ?_) AllReadyH.nil
                go_simp
                refine hK.out _ _ trivial (fun _ => ?_)
                clear hK K
                (try simp only [List.getElem_toArray, List.getElem_cons_succ, List.getElem_cons_zero, Act.put, List.setIfInBounds_toArray, List.set_cons_zero, List.set_cons_succ])
                obtain ⟨v5, w5, hrun, hown5, hgrow5, hat5⟩ := run_append_B 23 w4.drew base (.slice A3 acc3.length c3) acc3 HOE.out.1 A4 (trimB l2) c4 hrb4 HOE.out.2.1 HOE.out.2.2
                obtain ⟨A5, c5, rfl, hn5, hc5, hr5⟩ := hown5.form
                have HR5 := Lib.hid (And.intro hown5 (And.intro hgrow5 (And.intro hat5 hrun)))
                have hT5 : TpC w5 t p (.pointer none) (.slice A3 acc3.length c3) := HT2.out.1.tp.2.2.1.same (hgrow5.block t HT2.out.1.tp.2.2.1.lt (fun e => (HT2.out.1.out t e.symm).2 rfl))
                have e2 : w5.cell? ⟨t, 2, none⟩ = some (.slice A3 acc3.length c3) := Blk.cell hT5 2
                have f2 : w5.frozen? ⟨t, 2, none⟩ = false := Blk.free hT5 2
                clear hl4 hc4 hrb4 hA4 hown5 hgrow5 hat5 hrun hT5 hr5
                refine wpAnyH_ready (rs := [7]) (by kernel_rfl) (by simp) ?_
                refine AllReadyH.cons rfl (fun K hK => ?_) AllReadyH.nil
                rw [if_pos (by rfl)]
                refine Lib.wp_append_run _ (.tmp 144) (.tmp 146) 23 23 rfl _ _ rfl rfl _ _ HR5.out.2.2.2 ?_
                refine hK.out _ _ trivial (fun _ => ?_)
                clear hK K
                (try simp only [List.getElem_toArray, List.getElem_cons_succ, List.getElem_cons_zero, Act.put, List.setIfInBounds_toArray, List.set_cons_zero, List.set_cons_succ])
                refine wpAnyH_take (i := 8) (v := ?v8x19) rfl (by kernel_rfl) (by kernel_rfl) (by kernel_rfl) (fun _ _ _ h => h) (Or.inl ⟨by rfl, ?h8x19⟩) trivial ?r8x19
                case h8x19 => (intro w hSw; (try dsimp only at hSw); go_simp; (try with_reducible rfl))
                (try simp only [List.getElem_toArray, List.getElem_cons_succ, List.getElem_cons_zero, Act.put, List.setIfInBounds_toArray, List.set_cons_zero, List.set_cons_succ])
                refine wpAnyH_take (i := 9) (v := ?v9x20) rfl (by kernel_rfl) (by kernel_rfl) (by kernel_rfl) (fun _ _ _ h => h) (Or.inl ⟨by rfl, ?h9x20⟩) trivial ?r9x20
                case h9x20 => (intro w hSw; (try dsimp only at hSw); go_simp; (try with_reducible rfl))
                (try simp only [List.getElem_toArray, List.getElem_cons_succ, List.getElem_cons_zero, Act.put, List.setIfInBounds_toArray, List.set_cons_zero, List.set_cons_succ])
                refine wpAnyH_ready (rs := [10]) (by kernel_rfl) (by simp) ?_
                refine AllReadyH.cons rfl (fun K hK => ?_) AllReadyH.nil
                go_simp
                refine hK.out _ _ trivial (fun _ => ?_)
                clear hK K
                (try simp only [List.getElem_toArray, List.getElem_cons_succ, List.getElem_cons_zero, Act.put, List.setIfInBounds_toArray, List.set_cons_zero, List.set_cons_succ])
                refine wpAnyH_done (by kernel_rfl) ?_ _
                go_wp2
                go_roundg ((B5 ++ U5).length + 1)
                case measure => exact HM.out.1
                case rel => exact HM.out.2.2 _ (CtMid.put HT2.out.1 HT2.out.2.1 HM.out.2.1 rfl HR5.out.2.1 (by have h := HR5.out.1; simp only [List.length_append] at h; exact h) (by have h := HR5.out.2.2.1; simp only [List.length_append] at h; exact h))
end Go.Proofs.YtilhgjcjofobeaaDoor
