/- The walk of readMIMEHeader. -/
import Derived.Test.YtilhgjcjofobeaaDoorZCd
import Derived.Test.YtilhgjcjofobeaaDoorZCa
import Derived.Test.YtilhgjcjofobeaaDoorZC4
import Derived.Test.YtilhgjcjofobeaaDoorZC6
import Derived.Lib.AppendZeros
import Derived.BigQuiet
import Derived.Deep.DeepCutAuto
namespace Go.Proofs.YtilhgjcjofobeaaDoor
open Go.RowKit Go.Maps

/-- The loop's relation. -/
def HRel (K : Und) (base : Nat) (E : Nat → Addr) (gs : List Nat) (t p bb b sb hh N : Nat) (ff : HdrF) (er : Er) (R : List UInt8) (w : World) (gk : Nat) (u1 u2 u8 : Value) (wr : World) : Prop :=
  ∃ (S1 : List UInt8) (f : HdrF) (val : List UInt8 → Value) (v : Value) (n pos k : Nat) (mm mh : Int), u1 = .int .i64 mm ∧ u2 = .int .i64 mh ∧ mh = 9223372036854775807 - n ∧ n + k = N ∧ gk = k + 1 ∧ 9223372036854775807 - (n : Int) * 8796093022408 ≤ mm ∧ mm ≤ 9223372036854775807 ∧
    Hid (HdS K base E gs t p bb b sb hh n pos v val f u8 wr S1 ∧ HOk S1 f k ff er R ∧ S1.length ≤ 4398046511104 ∧ Below base w wr)
/-- What readMIMEHeader leaves. -/
def HEnd (K : Und) (base : Nat) (E : Nat → Addr) (gs : List Nat) (t p bb N : Nat) (ff : HdrF) (er : Er) (R : List UInt8) (w : World) (e : Ending) (w' : World) : Prop :=
  ∃ (b sb pos : Nat) (val : List UInt8 → Value) (v : Value), e = .returned (.tuple #[.map (some b), er.val E]) ∧ HdrM w' base b sb N pos val ff ∧ Tb K base E gs t p bb v w' R ∧ Below base w w'
/-- What a cut at a colon gives. -/
def CutH (k v : List UInt8) (g o c : Nat) (e : Ending) : Prop :=
  ∃ (A2 : Option Addr) (c2 : Nat), e = .returned (.tuple #[.slice (some ⟨g, o, none⟩) k.length c, .slice A2 v.length c2, .bool true]) ∧ v.length ≤ c2 ∧ c2 ≤ 9223372036854775807 ∧ (v ≠ [] → A2 = some ⟨g, o + (k.length + 1), none⟩)
theorem bytesCut_h {w : World} {g o g2 o2 n c d : Nat} {k v : List UInt8} (hn : n = (k ++ 58 :: v).length) (hl : (k ++ 58 :: v).length ≤ 4611686018427387904) (hlc : (k ++ 58 :: v).length ≤ c) (hc : c ≤ 9223372036854775807) (hk : 58 ∉ k) (hr : RB w (some ⟨g, o, none⟩) (k ++ 58 :: v)) (hs : RB w (some ⟨g2, o2, none⟩) [58]) :
    Calls Tryd.prog 49 #[.slice (some ⟨g, o, none⟩) n c, .slice (some ⟨g2, o2, none⟩) 1 d] w fun e w' => CutH k v g o c e ∧ Only w w' := by
  refine (bytesCut_any 58 hn hl hlc hr hs).mono fun e w' ⟨hc2, ho⟩ => ⟨?_, ho⟩
  rcases hc2 with ⟨h1, _⟩ | ⟨x, y, hxy, hx, rfl⟩
  · exact absurd (by simp) h1
  · obtain ⟨rfl, rfl⟩ := cut_unique hxy hk hx
    rw [List.length_append, List.length_cons] at hlc
    refine ⟨_, _, rfl, by omega, by omega, fun hv => ?_⟩
    have := List.length_pos_iff.2 hv
    rw [if_neg (by omega)]
/-- The bytes of a line may be written. -/
theorem row_of {w : World} {g o : Nat} {l : List UInt8} (hr : RB w (some ⟨g, o, none⟩) l) (hf : ∀ i, i < l.length → w.frozen? ⟨g, o + i, none⟩ = false) : Row w g o l.length (fun i => (l.getD i 0).toNat) := fun i hi =>
  ⟨by
    have := hr.at_ i l[i] (List.getElem?_eq_getElem hi)
    rw [this]
    simp [List.getD_eq_getElem?_getD, hi], hf i hi⟩
/-- Behind the key: the value's bytes are as they were. -/
theorem rb_behind {w w' : World} {g o : Nat} {k v : List UInt8} {A2 : Option Addr} (hr : RB w (some ⟨g, o, none⟩) (k ++ 58 :: v)) (hA : v ≠ [] → A2 = some ⟨g, o + (k.length + 1), none⟩) (hw : Wrote g o (o + k.length) w w') : RB w' A2 v := by
  intro hv
  refine ⟨g, o + (k.length + 1), hA hv, fun i u hu => ?_⟩
  rw [hw.cell _ (by omega)]
  have := hr.at_ (k.length + 1 + i) u (by
    rw [List.getElem?_append_right (by omega), show k.length + 1 + i - k.length = i + 1 by omega]
    exact hu)
  rwa [← Nat.add_assoc] at this
/-- What the call for a line gives, as the text ahead of the next cut wants it. -/
theorem HRel.zero {K : Und} {base : Nat} {E : Nat → Addr} {gs : List Nat} {t p bb b sb hh N : Nat} {ff : HdrF} {er : Er} {R : List UInt8} {w wr : World} {v u8 : Value} {S : List UInt8} (ht : Tb K base E gs t p bb v wr S) (hm : MapIs wr b 0 (fun _ => .slice none 0 0)) (hb : base ≤ b) (hsb : sb ≠ b) (hs : sb < wr.heap.size) (hstr : StrsV wr base sb hh 0 u8)
    (hd : ∀ k, SC K t p bb v k → k ≠ b ∧ k ≠ sb) (hok : HOk S (fun _ => []) N ff er R) (hS : S.length ≤ 4398046511104) (hB : Below base w wr) : HRel K base E gs t p bb b sb hh N ff er R w (N + 1) (.int .i64 9223372036854775807) (.int .i64 9223372036854775807) u8 wr :=
  ⟨S, _, _, v, 0, 0, N, _, _, rfl, rfl, by simp, by omega, rfl, by simp, by omega, Lib.hid ⟨⟨ht, ⟨hm, hb, hsb, hs, fun k => .inl ⟨OS.nil _ _, fun e => (by cases e)⟩, fun k k' g _ e => (by cases e), fun k => Nat.zero_le _, fun k h => absurd rfl h⟩, hstr, fun k hk => ⟨fun e => (by
    rcases e with e | ⟨_, e⟩
    · exact (hd k hk).1 e
    · cases e), (hd k hk).2⟩⟩, hok, hS, hB⟩⟩
theorem HOk.inv {S : List UInt8} {f ff : HdrF} {n : Nat} {er : Er} {R : List UInt8} (h : HOk S f n ff er R) :
    (n = 0 ∧ f = ff ∧ ∀ line er' R', CSays colonV S line er' R' → line = [] ∧ er' = er ∧ R' = R) ∨
    (∃ (R1 k v : List UInt8) (m : Nat), n = m + 1 ∧ (∀ line er' R', CSays colonV S line er' R' → line = k ++ 58 :: v ∧ er' = .nil ∧ R' = R1) ∧ 58 ∉ k ∧ looseKey k = true ∧ v.all (fun c => valueB c.toNat) = true ∧ k.length + v.length + R1.length ≤ S.length ∧
      HOk R1 (updF f (canonOf k) (f (canonOf k) ++ [valOf v])) m ff er R) := by
  cases h with
  | stop h => exact .inl ⟨rfl, rfl, h⟩
  | go h1 h2 h3 h4 h5 h6 => exact .inr ⟨_, _, _, _, rfl, h1, h2, h3, h4, h5, h6⟩
theorem Only.bel {w w' : World} (h : Only w w') (n : Nat) : Below n w w' := ⟨h.os, h.tape, h.output, by rw [h.heap]; exact Nat.le_refl _, fun k _ => by rw [h.heap]⟩
theorem HdS.keyed {K : Und} {base : Nat} {E : Nat → Addr} {gs : List Nat} {t p bb b sb hh n pos g o L : Nat} {v v' : Value} {val : List UInt8 → Value} {f : HdrF} {u : Value} {w w2 w3 w4 : World} {S R m : List UInt8}
    (hs : HdS K base E gs t p bb b sb hh n pos v val f u w S) (hC : Chg (SC K t p bb v) w w2) (hv : Turned v v' w) (ht : Tb K base E gs t p bb v' w2 R) (hL : Loc K base E gs p bb v v' w w2 R (some ⟨g, o, none⟩) L) (hg : g < w2.heap.size) (hb : Below w2.heap.size w2 w3)
    (hm : m.length ≤ L) (hm0 : 0 < m.length) (hw : Wrote g o (o + m.length) w3 w4) (hr : Row w4 g o m.length (fun i => (m.getD i 0).toNat)) : HdS K base E gs t p bb b sb hh n pos v' val f u w4 R ∧ base ≤ g := by
  have h2 := hs.read hC hv ht
  have h3 := h2.below hb
  have hL3 := hL.below hg hb
  obtain ⟨h4, h5⟩ := Tb.wrote (a := ⟨g, o, none⟩) hL3 hs.tb h3.tb hm hm0 hw hr
  have hbg : base ≤ g := by
    rcases h5 with h5 | h5
    · exact h3.tb.ge g h5
    · exact Nat.le_trans hs.lo h5
  refine ⟨h3.wrote hw h4 ?_, hbg⟩
  rcases h5 with h5 | h5
  · rcases h5 with h5 | h5 | h5
    · exact h2.dis g (.inl h5)
    · exact h2.dis g (.inr (.inl h5))
    · exact h2.dis g (.inr (.inr h5))
  · have h5' : w.heap.size ≤ g := h5
    refine ⟨fun e => ?_, fun e => ?_⟩
    · have := (hs.hdr.lt g e).2; omega
    · have := hs.hdr.slt; omega
theorem OS.ne_nil {w : World} {base : Nat} {v : Value} {l : List (List UInt8)} (h : OS w base v l) (hl : l ≠ []) : v ≠ .slice none 0 0 := by
  obtain ⟨A, c, rfl, _⟩ := h.form
  intro e
  injection e with _ e _
  exact hl (List.eq_nil_of_length_eq_zero e)
theorem HRel.next {K : Und} {base : Nat} {E : Nat → Addr} {gs : List Nat} {t p bb b sb hh N n pos pos' k : Nat} {ff f f' : HdrF} {er : Er} {R R1 : List UInt8} {w w6 w7 : World} {v u u' : Value} {val val' : List UInt8 → Value} {mm mh : Int}
    (hs : HdS K base E gs t p bb b sb hh n pos v val f u w6 R1) (hp : Putted w6 w7 base b sb (n + 1) pos' val val' f') (hu : StrsV w7 base sb hh pos' u') (hok : HOk R1 f' k ff er R) (hS : R1.length ≤ 4398046511104) (hB : Below base w w6)
    (hmh : mh = 9223372036854775807 - ((n + 1 : Nat) : Int)) (hnk : n + 1 + k = N) (h1 : 9223372036854775807 - ((n + 1 : Nat) : Int) * 8796093022408 ≤ mm) (h2 : mm ≤ 9223372036854775807) :
    HRel K base E gs t p bb b sb hh N ff er R w (k + 1) (.int .i64 mm) (.int .i64 mh) u' w7 :=
  ⟨R1, f', val', v, n + 1, pos', k, mm, mh, rfl, rfl, hmh, hnk, rfl, h1, h2, Lib.hid ⟨hs.put hp hu, hok, hS, hB.trans hp.frame⟩⟩
/-- Ahead of the map. -/
def HMid (K : Und) (base : Nat) (E : Nat → Addr) (gs : List Nat) (t p bb : Nat) (v : Value) (w : World) (S : List UInt8) (u8 u9 : Value) (wx : World) : Prop :=
  ∃ (m : Int) (sb hh : Nat), u9 = .int .i64 m ∧ Hid (Tb K base E gs t p bb v wx S ∧ Below base w wx ∧ StrsV wx base sb hh 0 u8 ∧ sb < wx.heap.size ∧ ∀ k, SC K t p bb v k → k ≠ sb)
theorem Tb.sent {K : Und} {base t p bb g : Nat} {E : Nat → Addr} {gs : List Nat} {v : Value} {w : World} {S : List UInt8} (h : Tb K base E gs t p bb v w S) (hg : g ∈ gs) : g < base := by
  obtain ⟨B, U, r, z, lb, lr, hR, _⟩ := h.tp.2.2.2
  exact (hR.s.2 g hg).1
set_option maxRecDepth 200000 in
set_option maxHeartbeats 12800000 in
theorem readHdr_any {K : Und} (hK : FillOK K) {base t p bb : Nat} {E : Nat → Addr} {gs : List Nat} {v : Value} {w : World} {S R : List UInt8} (h : Tb K base E gs t p bb v w S) (hg : 0 ∈ gs) (hf : 5 ∈ gs) (hS : S.length ≤ 4398046511104) {c0 : UInt8} {T : List UInt8} (hc : S = c0 :: T) (hb0 : blank c0 = false)
    {N : Nat} {ff : HdrF} {er : Er} (hok : HOk S (fun _ => []) N ff er R) (hN : N ≤ 1000) :
    Calls Tryd.prog 35 #[.pointer (some ⟨t, 0, none⟩), .int .i64 9223372036854775807, .int .i64 9223372036854775807] w (HEnd K base E gs t p bb N ff er R w) := by
  have hne : S ≠ [] := by rw [hc]; simp
  have hup := upcoming_any hK h.tp hne hg
  have t0 := h.tp.2.2.1.c0
  have H := Lib.hid (And.intro h (And.intro hok (And.intro hup (And.intro hc hb0))))
  clear hup h hok hc hb0
  have hmks : ∀ (n : Nat) (w : World), n ≤ 1000 → (Instr.makeSlice 34 (.int .i64 (n : Int)) (.int .i64 (n : Int))).run Tryd.prog w = .ok (.slice (some ⟨w.heap.size, 0, none⟩) n n) (w.alloc (.cells (madeCells #[.string ⟨#[]⟩] n) 9)) := fun n w hn =>
    run_make_row' (P := Tryd.prog) 34 9 (.string ⟨#[]⟩) 16 Tryd.underlying34 Tryd.infoS rfl .i64 .i64 n (by omega) (by omega) w
  have hmkm : ∀ (n : Int) (w : World), (Instr.makeMap 45 (some (.int .i64 n))).run Tryd.prog w = .ok (.map (some w.heap.size)) (w.alloc (.map #[] 0)) := fun n w => by
    simp [Instr.makeMap, run_underlying Tryd.underlying45, go_sem]
  have HM := Lib.hid (And.intro hmks hmkm)
  clear hmks hmkm
  go_enter Tryd.func35, Tryd.ntmps35
  go_upto_if 31 with (go_at_call 44; refine H.out.2.2.1.mono ?_; rintro e w1 ⟨⟨n0, hn0, rfl⟩, hT1, hC1⟩; have H1 := Lib.hid (And.intro (H.out.1.step hC1 hT1) (H.out.1.frame (hC1.sub (fun k _ e => .inl e)))); clear hT1 hC1 t0)
  go_cut [8, 9] (fun u8 u9 wx => HMid K base E gs t p bb v w S u8 u9 wx)
  case first =>
    by_cases hz : n0 = 0
    · subst hz
      clear hn0
      go_wp2
      go_meet
      case rel => exact ⟨0, 0, 0, rfl, Lib.hid ⟨H1.out.1, H1.out.2, .inl ⟨rfl, none, rfl⟩, Nat.lt_of_lt_of_le (H1.out.1.sent hg) H1.out.1.tp.size, fun k hk e => by have := H1.out.1.ge k hk; have := H1.out.1.sent hg; omega⟩⟩
    · have h0 : (0 : Int) < (n0 : Int) := by omega
      have h1 : ¬ (1000 : Int) < (n0 : Int) := by omega
      have hmk := HM.out.1 n0 w1 hn0
      go_wp2
      go_meet
      case rel =>
        have hb : Below w1.heap.size w1 (w1.alloc (.cells (madeCells #[.string ⟨#[]⟩] n0) 9)) := (Below.refl _ _).alloc (Nat.le_refl _) _
        have hsz := H1.out.1.tp.size
        exact ⟨n0, w1.heap.size, n0, rfl, Lib.hid ⟨H1.out.1.below hb, H1.out.2.trans (hb.mono hsz), .inr ⟨by omega, hsz, rfl, _, Blk.new _ _ _, by rw [size_madeCells]⟩, by simp, fun k hk e => by have := H1.out.1.lt k hk; omega⟩⟩
  case rest =>
    obtain ⟨m0, sb, hh, rfl, hq⟩ := hcut
    have hpk := fun w2 (hb : Below wc.heap.size wc w2) => peek1_any hK (hq.out.1.below hb).tp.2.2.2 hne hg
    have t1 : wc.cell? ⟨t, 0, none⟩ = some (.pointer (some ⟨p, 0, none⟩)) := hq.out.1.tp.2.2.1.c0
    have hbA : Below wc.heap.size wc (wc.alloc (.map #[] 0)) := (Below.refl _ _).alloc (Nat.le_refl _) _
    have hmk := HM.out.2 m0 wc
    have HQ := Lib.hid (And.intro hpk (And.intro hq.out hbA))
    have HN := Lib.hid (And.intro hne (And.intro hN hS))
    clear hpk hq hbA hne hN hS
    have t2 := Lib.cell?_alloc_some (.map #[] 0) t1
    go_wp2_with (go_at_call 45; refine (HQ.out.1 _ HQ.out.2.2).mono ?_; rintro e w2 ⟨c, B, U, r, z, rfl, hR2, hBU, hC2⟩; refine Hid.out ?_)
    obtain ⟨hc, hb0⟩ := H.out.2.2.2
    have hcc : c = c0 := by rw [hc, List.cons_append] at hBU; injection hBU
    subst hcc
    have hL := hR2.row
    obtain ⟨Lr, hLr, hLB⟩ := hL
    have k0 : w2.cell? ⟨bb, r, none⟩ = some (.int .u8 c.toNat) := (hLr.rb r (c :: B) hLB hR2.le).at_ 0 c rfl
    have n32 : ((c.toNat : Int) == 32) = false := by
      rw [beq_eq_false_iff_ne]
      intro e
      have := (byte_eq_iff c 32).1 e
      subst this
      exact absurd hb0 (by decide)
    have n9 : ((c.toNat : Int) == 9) = false := by
      rw [beq_eq_false_iff_ne]
      intro e
      have := (byte_eq_iff c 9).1 e
      subst this
      exact absurd hb0 (by decide)
    have hT2 : Tb K base E gs t p bb v w2 S := (HQ.out.2.1.1.below HQ.out.2.2).step hC2 ((HQ.out.2.1.1.below HQ.out.2.2).tp.turn hC2 ⟨_, _, _, _, _, _, hR2, hBU⟩)
    have H2 := Lib.hid (And.intro hT2 hC2)
    clear hc hb0 hR2 hBU hC2 hLr hLB hT2 t1 t2 hmk
    generalize c.toNat = cn at k0 n32 n9
    refine Lib.hid ?_
    go_wp2
    go_loopg [1, 2, 8] (N + 1) (fun gk u1 u2 u8 wr => HRel K base E gs t p bb wc.heap.size sb hh N ff er R w gk u1 u2 u8 wr)
    case atStart =>
      obtain ⟨hTc, hBc, hst, hsl, hsn⟩ := HQ.out.2.1
      have hbA := HQ.out.2.2
      have hT2 := H2.out.1
      have hC2 : Chg (SC K t p bb v) (wc.alloc (.map #[] 0)) w2 := H2.out.2.sub (fun k _ e => .inl e)
      have hS2 := (hTc.below hbA).lt
      have hwb : ∀ k, k < (wc.alloc (.map #[] 0)).heap.size → ¬ SC K t p bb v k → w2.heap[k]? = (wc.alloc (.map #[] 0)).heap[k]? := fun k hk hn => hC2.block k hk hn
      have hnb : ¬ SC K t p bb v wc.heap.size := fun e => by have := hTc.lt _ e; omega
      have hns : ¬ SC K t p bb v sb := fun e => hsn _ e rfl
      have hmb : MapIs w2 wc.heap.size 0 (fun _ => .slice none 0 0) := (MapIs.made wc).of (hwb _ (by simp) hnb)
      refine HRel.zero hT2 hmb hTc.tp.size (by omega) (Nat.lt_of_lt_of_le hsl (Nat.le_trans hbA.size hC2.size)) (hst.put ((hwb sb (Nat.lt_of_lt_of_le hsl hbA.size) hns).trans (hbA.block sb hsl))) (fun k hk => ⟨fun e => hnb (e ▸ hk), hsn k hk⟩) H.out.2.1 HN.out.2.2 ((hBc.trans (hbA.mono hTc.tp.size)).trans ((hTc.below hbA).frame hC2))
    case round =>
      obtain ⟨S1, f, val, v1, n, pos, k, mm, mh, rfl, rfl, hmh, hnk, hgk, hmm1, hmm2, hq⟩ := hrel
      obtain ⟨hs, hok, hS1, hB⟩ := hq.out
      have hNN := HN.out.2.1
      have hn1 : n ≤ 1000 := by omega
      have hrc := readContinued_any hK hs.tb hg hf hS1 48 mustC_call colonV colonV_two (fun A c l w h _ _ hr => mustC_any E h hr) mm (.inr ⟨by omega, hmm2⟩)
      rcases hok.inv with ⟨rfl, rfl, hD⟩ | ⟨R1, key, vv, k', rfl, hD, h58, hlk, hvb, hlen, hnext⟩
      · have HRC := Lib.hid (And.intro hrc (And.intro hD (And.intro hs (And.intro hB hnk))))
        clear hrc hD hs hB hok hq hmh hgk hmm1 hmm2 hnk hS1 hNN hn1
        go_wp2_with (go_at_call 47; refine HRC.out.1.mono ?_; rintro e w3 ⟨v', line, R', er', A, c', rfl, hsay, hlc, hc, hrb, hT3, hC3, hTu, hL3⟩; obtain ⟨rfl, rfl, rfl⟩ := HRC.out.2.1 _ _ _ hsay; have H3 := Lib.hid (And.intro hT3 (And.intro hC3 hTu)); clear hsay hlc hc hrb hT3 hC3 hTu hL3)
        go_ret2
        obtain ⟨_, _, hs, hB, hnk⟩ := HRC.out
        have h3 := hs.read H3.out.2.1 H3.out.2.2 H3.out.1
        have hN0 : n = N := hnk
        subst hN0
        exact ⟨_, sb, pos, val, v', rfl, h3.hdr, h3.tb, hB.trans (hs.tb.frame H3.out.2.1)⟩
      · obtain ⟨Ln, hLn⟩ : ∃ L : Nat, L = (key ++ 58 :: vv).length := ⟨_, rfl⟩
        have hkl : (canonOf key).length = key.length := canonOf_len key
        have hvl := valOf_le vv
        have HRC := Lib.hid (And.intro hrc (And.intro hD (And.intro hs (And.intro hB (And.intro hLn (And.intro hnext (And.intro hlen hS1)))))))
        have HM2 := Lib.hid (And.intro hmh (And.intro hnk (And.intro hgk (And.intro hmm1 (And.intro hmm2 hn1)))))
        have HK := Lib.hid (And.intro h58 (And.intro hlk (And.intro hvb (And.intro hkl hvl))))
        clear hrc hD hs hB hok hq hmh hgk hmm1 hmm2 hnk hS1 hNN hn1 hLn hnext hlen h58 hlk hvb hkl hvl
        go_wp2_with (go_at_call 47; refine HRC.out.1.mono ?_; rintro e w3 ⟨v', line, R', er', A, c', rfl, hsay, hlc, hc, hrb, hT3, hC3, hTu, hL3⟩; refine Hid.out ?_)
        obtain ⟨rfl, rfl, rfl⟩ := HRC.out.2.1 _ _ _ hsay
        obtain ⟨g, o, rfl, _⟩ := id hrb (by simp)
        simp only [Er.val]
        rw [← HRC.out.2.2.2.2.1]
        rw [← HRC.out.2.2.2.2.1] at hlc hL3
        have hLp : 0 < Ln := by rw [HRC.out.2.2.2.2.1, List.length_append, List.length_cons]; omega
        have hL0 : ((Ln : Int) == 0) = false := by rw [beq_eq_false_iff_ne]; omega
        have hLm : Ln ≤ 4611686018427387904 := by
          have h1 := HRC.out.2.2.2.2.1
          obtain ⟨_, _, _, _, _, _, h2, h3⟩ := HRC.out
          rw [List.length_append, List.length_cons] at h1
          omega
        have hgl : g < w3.heap.size := by
          obtain ⟨c7, t7, hl7⟩ := List.exists_cons_of_ne_nil (show key ++ 58 :: vv ≠ [] by simp)
          exact World.block_lt_of_cell? _ _ (hrb.at_ 0 c7 (by rw [hl7]; rfl))
        have hb4 : Below w3.heap.size w3 (w3.alloc (.cells #[.int .u8 58] 5 (1, 2))) := (Below.refl _ _).alloc (Nat.le_refl _) _
        have hcv : (convert 23 23 (.slice (some ⟨w3.heap.size, 0, none⟩) 1 1)).run Tryd.prog (w3.alloc (.cells #[.int .u8 58] 5)) = .ok (.slice (some ⟨w3.heap.size, 0, none⟩) 1 1) (w3.alloc (.cells #[.int .u8 58] 5 (1, 2))) := Lib.run_convert_bytes_const w3 23 5 #[.int .u8 58] 1 1 Tryd.underlying23 Tryd.underlying5
        have hcut := bytesCut_h (d := 1) (n := Ln) (c := c') HRC.out.2.2.2.2.1 (by rw [← HRC.out.2.2.2.2.1]; exact hLm) (by rw [← HRC.out.2.2.2.2.1]; exact hlc) hc HK.out.1 (hrb.below hb4) (RB.byteM w3 58 5 (1, 2))
        have H3 := Lib.hid (And.intro hlc (And.intro hc (And.intro hrb (And.intro hT3 (And.intro hC3 (And.intro hTu (And.intro hL3 (And.intro hgl (And.intro hb4 (And.intro hcut hLp))))))))))
        clear hlc hc hrb hT3 hC3 hTu hL3 hgl hb4 hcut hLp hsay hLm
        refine Lib.hid ?_
        go_wp2_with (go_at_call 49; refine H3.out.2.2.2.2.2.2.2.2.2.1.mono ?_; rintro e w4 ⟨⟨A2, c2, rfl, hc2, hcm2, hA2⟩, ho4⟩; refine Hid.out ?_)
        have hbw4 : Below w3.heap.size w3 w4 := H3.out.2.2.2.2.2.2.2.2.1.trans (ho4.bel _)
        have hr4 : RB w4 (some ⟨g, o, none⟩) (key ++ 58 :: vv) := H3.out.2.2.1.below hbw4
        have hkLn : key.length + (vv.length + 1) = Ln := by rw [HRC.out.2.2.2.2.1, List.length_append, List.length_cons]
        have hfr4 : ∀ i, i < key.length → w4.frozen? ⟨g, o + i, none⟩ = false := fun i hi => (hbw4.frozen (p := ⟨g, o + i, none⟩) H3.out.2.2.2.2.2.2.2.1).trans (H3.out.2.2.2.2.2.2.1.free H3.out.2.2.2.1 i (by omega))
        have hck := canonKeyR_any (some ⟨g, o, none⟩) key c' g o (fun _ => rfl) (by have := H3.out.1; omega) H3.out.2.1 w4 (row_of hr4.left hfr4)
        rw [HK.out.2.1] at hck
        have hkp : 0 < key.length := by
          rcases hk0 : key with _ | ⟨c7, t7⟩
          · have h1 := HK.out.2.1
            rw [hk0] at h1
            exact absurd h1 (by decide)
          · simp
        have H4 := Lib.hid (And.intro hbw4 (And.intro hr4 (And.intro hkLn (And.intro hck (And.intro hkp (And.intro hc2 (And.intro hcm2 hA2)))))))
        clear hbw4 hr4 hkLn hfr4 hck hkp hc2 hcm2 hA2 ho4 hcv hL0
        refine Lib.hid ?_
        go_wp2_with (go_at_call 50; refine H4.out.2.2.2.1.mono ?_; rintro e w5 ⟨rfl, hw5, m, hml, hrm⟩; refine Hid.out ?_)
        obtain ⟨hs5, hbg⟩ := HRC.out.2.2.1.keyed H3.out.2.2.2.2.1 H3.out.2.2.2.2.2.1 H3.out.2.2.2.1 H3.out.2.2.2.2.2.2.1 H3.out.2.2.2.2.2.2.2.1 H4.out.1 (m := m) (by have := H4.out.2.2.1; omega) (by have := H4.out.2.2.2.2.1; omega) (by rw [hml]; exact hw5) (by rw [hml]; exact hrm)
        have hv5 : RB w5 A2 vv := rb_behind H4.out.2.1 H4.out.2.2.2.2.2.2.2 hw5
        have hB5 : Below base w w5 := (HRC.out.2.2.2.1.trans (HRC.out.2.2.1.tb.frame H3.out.2.2.2.2.1)).trans ((H4.out.1.mono (H3.out.2.2.2.1.tp.size)).trans (hw5.below hbg))
        have H5 := Lib.hid (And.intro hs5 (And.intro hv5 hB5))
        clear hs5 hv5 hB5 hw5 hml hrm m
        refine Lib.hid ?_
        go_wp2
        have hvvl : vv.length ≤ 4398046511104 := by
          obtain ⟨_, _, _, _, _, _, h2, h3⟩ := HRC.out
          omega
        obtain ⟨gk0, hgk0⟩ : ∃ x, x = gk := ⟨_, rfl⟩
        go_loopg [105] (vv.length) (fun gj i wj => ∃ j : Nat, j + gj = vv.length ∧ i = .int .i64 j ∧ wj = w5)
        case atStart => exact ⟨0, by omega, rfl, rfl⟩
        case round =>
          obtain ⟨j, hj, rfl, hwj⟩ := hrel
          subst hwj
          by_cases hlt : j < vv.length
          · have hne : vv ≠ [] := by rintro rfl; simp at hlt
            have hA := H4.out.2.2.2.2.2.2.2 hne
            subst hA
            have hcj := H5.out.2.1.at_ j vv[j] (List.getElem?_eq_getElem hlt)
            have hvj := validValue_any vv[j].toNat (by omega) (byte_le _)
            rw [show valueB vv[j].toNat = true from List.all_eq_true.1 HK.out.2.2.1 _ (List.getElem_mem hlt)] at hvj
            have HV := Lib.hid hvj
            clear hvj hne
            generalize vv[j].toNat = cj at hcj HV
            go_wp2_with (go_at_call 51; refine (HV.out _).mono ?_; rintro e w' ⟨rfl, rfl⟩)
            go_roundg (vv.length - (j + 1))
            case measure => omega
            case rel => exact ⟨j + 1, by omega, by go_num, rfl⟩
          · obtain rfl : j = vv.length := by omega
            clear hj hlt
            have htl := trimLeft_any (w := wr) H4.out.2.2.2.2.2.1 H4.out.2.2.2.2.2.2.1 H5.out.2.1
            obtain ⟨ka, hka⟩ : ∃ x : Nat, x = (canonOf key).length := ⟨_, rfl⟩
            obtain ⟨va, hva⟩ : ∃ x : Nat, x = (valOf vv).length := ⟨_, rfl⟩
            obtain ⟨hmh, hnk, hgk, hmm1, hmm2, hn1⟩ := HM2.out
            obtain ⟨_, _, _, hkl, hvl⟩ := HK.out
            have hkb : ka + va ≤ 4398046511104 := by
              obtain ⟨_, _, _, _, _, _, h2, h3⟩ := HRC.out
              omega
            have hi31 : IntKind.i64.wrap (mh - 1) = mh - 1 := by rw [IntKind.wrap_i64]; omega
            have hl32 : ¬ mh - 1 < 0 := by omega
            have HT := Lib.hid (And.intro htl (And.intro hka (And.intro hva hkb)))
            have HI := Lib.hid (And.intro hmh (And.intro hnk (And.intro hgk (And.intro hmm1 (And.intro hmm2 hn1)))))
            clear htl hka hva hkb hmh hnk hgk hmm1 hmm2 hn1 hkl hvl
            go_wp2_with (go_at_call 52; refine HT.out.1.mono ?_; rintro e w6 ⟨⟨A3, c3, rfl, hr6⟩, hb6⟩; refine Hid.out ?_)
            have hs6 := H5.out.1.below hb6
            have hst : (convert 23 9 (.slice A3 (valOf vv).length c3)).run Tryd.prog w6 = .ok (.string ⟨(valOf vv).toArray⟩) w6 := run_toStringR rfl hr6
            obtain ⟨A5, c5, hv5, hl5, hc5, hsl5, _⟩ := (hs6.hdr.each (canonOf key)).form
            have hck : (canonOf key).length ≤ 9223372036854775807 := by have := HT.out.2.1; have := HT.out.2.2.2; omega
            have H6 := Lib.hid (And.intro hs6 (And.intro hv5 (And.intro hb6 hck)))
            clear hs6 hr6 hb6 hv5 hl5 hc5 hsl5 hck
            rw [← HT.out.2.2.1] at hst
            rw [← HT.out.2.2.1]
            refine Lib.hid ?_
            go_wp2_with (at_lookup; refine wpList_look rfl _ _ rfl _ n val rfl H6.out.1.hdr.map _ rfl H6.out.2.2.2 _ H6.out.2.1 ?_; refine Hid.out ?_)
            have hB6 : Below base w w6 := H5.out.2.2.trans (H6.out.2.2.1.mono H5.out.1.lo)
            have HB6 := Lib.hid hB6
            have hsa := H6.out.1.below ((Below.refl _ _).alloc (Nat.le_refl _) (.cells #[.string ⟨(valOf vv).toArray⟩] 9))
            have h37 : IntKind.i64.wrap (mm - ((canonOf key).length : Int)) = mm - ((canonOf key).length : Int) := by
              obtain ⟨hmh, hnk, hgk, hmm1, hmm2, hn1⟩ := HI.out
              obtain ⟨_, hka, hva, hkb⟩ := HT.out
              rw [IntKind.wrap_i64]; omega
            have h38 : IntKind.i64.wrap (mm - ((canonOf key).length : Int) - 200) = mm - ((canonOf key).length : Int) - 200 := by
              obtain ⟨hmh, hnk, hgk, hmm1, hmm2, hn1⟩ := HI.out
              obtain ⟨_, hka, hva, hkb⟩ := HT.out
              rw [IntKind.wrap_i64]; omega
            have h39 : IntKind.i64.wrap (mm - ((canonOf key).length : Int) - 200 - ((valOf vv).length : Int)) = mm - ((canonOf key).length : Int) - 200 - ((valOf vv).length : Int) := by
              obtain ⟨hmh, hnk, hgk, hmm1, hmm2, hn1⟩ := HI.out
              obtain ⟨_, hka, hva, hkb⟩ := HT.out
              rw [IntKind.wrap_i64]; omega
            have h40 : ¬ mm - ((canonOf key).length : Int) - 200 - ((valOf vv).length : Int) < 0 := by
              obtain ⟨hmh, hnk, hgk, hmm1, hmm2, hn1⟩ := HI.out
              obtain ⟨_, hka, hva, hkb⟩ := HT.out
              omega
            have k39 : IntKind.i64.wrap (mm - ((valOf vv).length : Int)) = mm - ((valOf vv).length : Int) := by
              obtain ⟨hmh, hnk, hgk, hmm1, hmm2, hn1⟩ := HI.out
              obtain ⟨_, hka, hva, hkb⟩ := HT.out
              rw [IntKind.wrap_i64]; omega
            have k40 : ¬ mm - ((valOf vv).length : Int) < 0 := by
              obtain ⟨hmh, hnk, hgk, hmm1, hmm2, hn1⟩ := HI.out
              obtain ⟨_, hka, hva, hkb⟩ := HT.out
              omega
            have qT : ∀ (w : World) (a : Option Addr) (n c : Nat), (binOp .eql 34 (.slice a n c) (.slice none 0 0)).run Tryd.prog w = .ok (.bool a.isNone) w := fun w a n c => Lib.run_eql_slice_nil w _ _ a n c 0 0 Tryd.underlying34
            clear hB6
            rcases A5 with _ | a5
            · clear k39 k40
              rcases H6.out.1.strs with ⟨hph, As, hu8⟩ | ⟨hph, hbs, hu8, cur, hcur, hcs⟩
              · subst hu8
                obtain ⟨v7, w7, hrun7, hos7, hsb7, hg7, hat7⟩ := (hsa.hdr.each (canonOf key)).append 34 34 Tryd.underlying34 w6.heap.size 1 (valOf vv) (by simp) (by have := H6.out.1.hdr.small (canonOf key); have := HI.out.2.2.2.2.2; omega) hsa.lo hsa.hdr.slt
                have hmap7 : MapIs w7 wc.heap.size n val := hsa.hdr.map.of (hg7.block wc.heap.size hsa.hdr.map.lt (fun e => by
                  split at e
                  · cases e
                  · exact H6.out.1.hdr.ne _ e.symm))
                rw [H6.out.2.1] at hrun7
                have HP := Lib.hid (And.intro hrun7 (And.intro hmap7 (And.intro (show n < 9223372036854775807 by have := HI.out.2.2.2.2.2; omega) (And.intro (hos7.ne_nil (by simp)) (And.intro hos7 (And.intro hsb7 (And.intro hg7 (And.intro hat7 hsa))))))))
                clear hrun7 hmap7 hos7 hsb7 hg7 hat7 hsa
                refine Lib.hid ?_
                go_wp2_with (first
                  | ((with_reducible refine at_appendS ?_); refine Lib.wpList_append_run _ rfl _ _ _ _ rfl _ _ rfl rfl _ _ HP.out.1 ?_)
                  | (at_mapUpdate; refine wpList_upd rfl _ _ _ rfl _ n val rfl HP.out.2.1 HP.out.2.2.1 _ rfl H6.out.2.2.2 v7 rfl HP.out.2.2.2.1 ?_; intro w8 hm8 hg8; have H8 := Lib.hid (And.intro hm8 hg8); clear hm8 hg8))
                go_roundg (k' + 1)
                case measure => have := HI.out.2.2.1; omega
                case rel =>
                  obtain ⟨_, _, _, _, hos7, hsb7, hg7, hat7, hsa⟩ := HP.out
                  obtain ⟨hp, hsb8⟩ := HdrM.appended hsa.hdr hsa.lo hos7 hsb7 hg7 hat7 H8.out.1 H8.out.2 (by rw [List.length_append]; have := H6.out.1.hdr.small (canonOf key); simp; omega) (by simp)
                  obtain ⟨hmh, hnk, hgk, hmm1, hmm2, hn1⟩ := HI.out
                  obtain ⟨_, hka, hva, hkb⟩ := HT.out
                  obtain ⟨_, _, _, _, _, hnx, hln, hS1⟩ := HRC.out
                  exact HRel.next hsa hp (hsa.strs.put hsb8) hnx (by omega) (HB6.out.trans (((Below.refl _ _).alloc (Nat.le_refl _) _).mono H6.out.1.lo)) (by omega) (by omega) (by omega) (by omega)
              · subst hu8
                obtain ⟨m, hm⟩ : ∃ m : Nat, m = hh - pos := ⟨_, rfl⟩
                have hst := H6.out.1.strs
                rw [← hm] at hst ⊢
                have hm1 : 1 ≤ m := by omega
                have hm1i : (1 : Int) ≤ (m : Int) := by omega
                have hm0 : (0 : Int) < (m : Int) := by omega
                have c8 : w6.cell? ⟨sb, pos, none⟩ = some cur[pos] := (hcur.cell pos).trans (Array.getElem?_eq_getElem (by omega))
                have f8 : w6.frozen? ⟨sb, pos, none⟩ = false := hcur.free pos
                generalize cur[pos] = cv at c8
                have hf0 : f (canonOf key) = [] := by
                  have := H6.out.1.hdr.each (canonOf key)
                  rw [H6.out.2.1] at this
                  exact this.nil
                have HP := Lib.hid (And.intro hst (And.intro hm (And.intro hph (And.intro hf0 hsa))))
                clear hst hm hph hf0 hbs hcur hcs hsa
                by_cases em : m = 1
                · subst em
                  clear hm1 hm1i hm0
                  refine Lib.hid ?_
                  go_wp2
                  go_quiet (fail)
                  go_wp2_with (at_mapUpdate; refine wpList_upd rfl _ _ _ rfl _ n val rfl (H6.out.1.hdr.map.of ((Below.heap_setCell _ _ _ _ (fun e => H6.out.1.hdr.sne e.symm)).trans rfl)) (by have := HI.out.2.2.2.2.2; omega) _ rfl H6.out.2.2.2 _ rfl (by intro e; cases e) ?_; intro w8 hm8 hg8; have H8 := Lib.hid (And.intro hm8 hg8); clear hm8 hg8)
                  go_roundg (k' + 1)
                  case measure => have := HI.out.2.2.1; omega
                  case rel =>
                    obtain ⟨hst, hm, hph, hf0, _⟩ := HP.out
                    have hO6 : Only w6 (w6.drewN nq) := (Only.refl w6).drewN nq
                    have hs6 := H6.out.1.only hO6
                    obtain ⟨hp, hrow⟩ := HdrM.stored hs6.hdr hs6.lo hs6.strs hph hf0 H8.out.1 H8.out.2
                    obtain ⟨hmh, hnk, hgk, hmm1, hmm2, hn1⟩ := HI.out
                    obtain ⟨_, hka, hva, hkb⟩ := HT.out
                    obtain ⟨_, _, _, _, _, hnx, hln, hS1⟩ := HRC.out
                    exact HRel.next hs6 hp (.inl ⟨by omega, _, rfl⟩) hnx (by omega) (HB6.out.trans ((hO6.bel _).mono H6.out.1.lo)) (by omega) (by omega) (by omega) (by omega)
                · have em2 : ¬ (1 = m) := fun e => em e.symm
                  refine Lib.hid ?_
                  go_wp2
                  go_quiet (fail)
                  go_wp2_with (at_mapUpdate; refine wpList_upd rfl _ _ _ rfl _ n val rfl (H6.out.1.hdr.map.of ((Below.heap_setCell _ _ _ _ (fun e => H6.out.1.hdr.sne e.symm)).trans rfl)) (by have := HI.out.2.2.2.2.2; omega) _ rfl H6.out.2.2.2 _ rfl (by intro e; cases e) ?_; intro w8 hm8 hg8; have H8 := Lib.hid (And.intro hm8 hg8); clear hm8 hg8)
                  go_roundg (k' + 1)
                  case measure => have := HI.out.2.2.1; omega
                  case rel =>
                    obtain ⟨hst, hm, hph, hf0, _⟩ := HP.out
                    have hO6 : Only w6 (w6.drewN nq) := (Only.refl w6).drewN nq
                    have hs6 := H6.out.1.only hO6
                    subst hm
                    obtain ⟨hp, hrow⟩ := HdrM.stored hs6.hdr hs6.lo hs6.strs hph hf0 H8.out.1 H8.out.2
                    obtain ⟨hmh, hnk, hgk, hmm1, hmm2, hn1⟩ := HI.out
                    obtain ⟨_, hka, hva, hkb⟩ := HT.out
                    obtain ⟨_, _, _, _, _, hnx, hln, hS1⟩ := HRC.out
                    exact HRel.next hs6 hp (hs6.strs.tail hph hrow (fun _ => rfl)) hnx (by omega) (HB6.out.trans ((hO6.bel _).mono H6.out.1.lo)) (by omega) (by omega) (by omega) (by omega)
            · clear h37 h38 h39 h40
              obtain ⟨v7, w7, hrun7, hos7, hsb7, hg7, hat7⟩ := (hsa.hdr.each (canonOf key)).append 34 34 Tryd.underlying34 w6.heap.size 1 (valOf vv) (by simp) (by have := H6.out.1.hdr.small (canonOf key); have := HI.out.2.2.2.2.2; omega) hsa.lo hsa.hdr.slt
              have hmap7 : MapIs w7 wc.heap.size n val := hsa.hdr.map.of (hg7.block wc.heap.size hsa.hdr.map.lt (fun e => by
                split at e
                · cases e
                · exact H6.out.1.hdr.ne _ e.symm))
              rw [H6.out.2.1] at hrun7
              have HP := Lib.hid (And.intro hrun7 (And.intro hmap7 (And.intro (show n < 9223372036854775807 by have := HI.out.2.2.2.2.2; omega) (And.intro (hos7.ne_nil (by simp)) (And.intro hos7 (And.intro hsb7 (And.intro hg7 (And.intro hat7 hsa))))))))
              clear hrun7 hmap7 hos7 hsb7 hg7 hat7 hsa
              refine Lib.hid ?_
              go_wp2_with (first
                | ((with_reducible refine at_appendS ?_); refine Lib.wpList_append_run _ rfl _ _ _ _ rfl _ _ rfl rfl _ _ HP.out.1 ?_)
                | (at_mapUpdate; refine wpList_upd rfl _ _ _ rfl _ n val rfl HP.out.2.1 HP.out.2.2.1 _ rfl H6.out.2.2.2 v7 rfl HP.out.2.2.2.1 ?_; intro w8 hm8 hg8; have H8 := Lib.hid (And.intro hm8 hg8); clear hm8 hg8))
              go_roundg (k' + 1)
              case measure => have := HI.out.2.2.1; omega
              case rel =>
                obtain ⟨_, _, _, _, hos7, hsb7, hg7, hat7, hsa⟩ := HP.out
                obtain ⟨hp, hsb8⟩ := HdrM.appended hsa.hdr hsa.lo hos7 hsb7 hg7 hat7 H8.out.1 H8.out.2 (by rw [List.length_append]; have := H6.out.1.hdr.small (canonOf key); simp; omega) (by simp)
                obtain ⟨hmh, hnk, hgk, hmm1, hmm2, hn1⟩ := HI.out
                obtain ⟨_, hka, hva, hkb⟩ := HT.out
                obtain ⟨_, _, _, _, _, hnx, hln, hS1⟩ := HRC.out
                exact HRel.next hsa hp (hsa.strs.put hsb8) hnx (by omega) (HB6.out.trans (((Below.refl _ _).alloc (Nat.le_refl _) _).mono H6.out.1.lo)) (by omega) (by omega) (by omega) (by omega)
end Go.Proofs.YtilhgjcjofobeaaDoor
