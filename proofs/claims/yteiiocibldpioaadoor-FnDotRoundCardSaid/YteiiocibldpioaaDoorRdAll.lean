/- The walk of io.ReadAll over a dot reader. -/
import Derived.Test.YteiiocibldpioaaDoorRdV
import Derived.Test.YteiiocibldpioaaDoorRdU
import Derived.Test.YteiiocibldpioaaDoorOwnV
import Derived.Test.YteiiocibldpioaaDoorZr
import Derived.Test.YteiiocibldpioaaDoorBoth
import Derived.Test.YteiiocibldpioaaDoorAhead
import Derived.Deep.LoopGhost
namespace Go.Proofs.YteiiocibldpioaaDoor
open Go.RowKit

/-- What ReadAll leaves of a dot reader. -/
def ReadAllEnd (K : Und) (base : Nat) (E : Nat → Addr) (gs : List Nat) (t p bb : Nat) (buf : Value) (S0 : List UInt8) (w : World) (e : Ending) (w' : World) : Prop :=
  ∃ (X : List UInt8) (A : Option Addr) (c st' : Nat) (er : Er) (S' : List UInt8), e = .returned (.tuple #[.slice A X.length c, er.val E]) ∧ RB w' A X ∧ (∀ g o, A = some ⟨g, o, none⟩ → w.heap.size ≤ g) ∧ dots 0 S0 = (X ++ (dots st' S').1, (dots st' S').2) ∧
    ((er = .nil ∧ st' = 5 ∧ Tp K base E gs t p bb buf w' S') ∨ (er = .sent 2 ∧ S' = [] ∧ st' ≠ 5 ∧ Tp K base E gs t p bb buf w' [])) ∧ Below base w w'
/-- The chunks so far. -/
structure Chunks (M : Nat) (u6 : Value) (vs : List Value) (Cs : List (List UInt8)) (g : Nat) (wr : World) : Prop where
  own : OV wr M u6 vs
  bvs : BVs wr (fun j => (M ≤ j ∧ j ≠ g) ∧ u6.ownBlock ≠ some j) vs Cs
  many : vs.length * 256 ≤ Cs.flatten.length
  ne : u6.ownBlock ≠ some g
/-- The loop's relation. -/
def RARel (K : Und) (base : Nat) (E : Nat → Addr) (gs : List Nat) (t p bb dr : Nat) (buf : Value) (M : Nat) (S0 : List UInt8) (w : World) (gk : Nat) (u4 u5 u6 u7 : Value) (wr : World) : Prop :=
  ∃ (st : Nat) (S1 : List UInt8) (vs : List Value) (Cs : List (List UInt8)) (g c nx : Nat) (L : List UInt8), u4 = .slice (some ⟨g, 0, none⟩) 0 c ∧ u5 = .int .i64 nx ∧ u7 = .int .i64 Cs.flatten.length ∧ Chunks M u6 vs Cs g wr ∧
    Dt K base E gs t p bb dr buf st wr S1 ∧ st ≤ 5 ∧ dots 0 S0 = (Cs.flatten ++ (dots st S1).1, (dots st S1).2) ∧ RowB wr g c L ∧ M ≤ g ∧ g < wr.heap.size ∧ 256 ≤ c ∧ c ≤ 9223372036854775807 ∧ 256 ≤ nx ∧ nx ≤ 2 * Cs.flatten.length + 256 ∧ 2 * nx ≤ 3 * c ∧
    (dots st S1).1.length < gk ∧ Below base w wr ∧ M ≤ wr.heap.size
theorem Dt.S_lt {K : Und} {base t p bb dr : Nat} {E : Nat → Addr} {gs : List Nat} {buf : Value} {st : Nat} {w : World} {S : List UInt8} (h : Dt K base E gs t p bb dr buf st w S) : ∀ k, Rd.S K p bb k → k < w.heap.size := Rs.S_lt h.rs
theorem Dt.belowN {K : Und} {base t p bb dr : Nat} {E : Nat → Addr} {gs : List Nat} {buf : Value} {st : Nat} {w w' : World} {S : List UInt8} (h : Dt K base E gs t p bb dr buf st w S) {N : Nat} (hb : Below N w w') (hN : ∀ k, Rd.S K p bb k → k < N) (ht : t < N) (hd : dr < N) : Dt K base E gs t p bb dr buf st w' S :=
  ⟨h.bt, h.bd, h.td, h.ts, h.ds, h.tp.same (hb.block t ht), h.blk.same (hb.block dr hd), Rs.below h.rs hb hN⟩
theorem Chunks.chg {M g : Nat} {u6 : Value} {vs : List Value} {Cs : List (List UInt8)} {wr w3 : World} {S : Nat → Prop} (h : Chunks M u6 vs Cs g wr) (hc : Chg S wr w3) (hS : ∀ j, S j → j = g ∨ j < M) : Chunks M u6 vs Cs g w3 := by
  refine ⟨h.own.of_blocks (fun k hk hl => hc.block k hl (fun e => ?_)), h.bvs.of hc.size (fun j hj hl => hc.block j hl (fun e => ?_)) (fun j hj _ => hj), h.many, h.ne⟩
  · rcases hS k e with e | e
    · subst e; exact h.ne hk
    · have := (h.own.lt k hk).1; omega
  · rcases hS j e with e | e
    · exact hj.1.2 e
    · have := hj.1.1; omega
theorem Chunks.next {M c0 c4 g c n5 c5 : Nat} {A0 A4 : Option Addr} {vs : List Value} {Cs : List (List UInt8)} {X : List UInt8} {w3 w4 w5 : World} {ty : TypeId} (h : Chunks M (.slice A0 vs.length c0) vs Cs g w3)
    (hone : BV w3 (fun j => M ≤ j ∧ (Value.slice A0 vs.length c0).ownBlock ≠ some j) (.slice (some ⟨g, 0, none⟩) X.length c) X) (hX : 256 ≤ X.length)
    (hap : AppendedV (w3.alloc (.cells #[.slice (some ⟨g, 0, none⟩) X.length c] ty)) w4 M (.slice A0 vs.length c0) A4 (vs.length + 1) c4 (vs ++ [.slice (some ⟨g, 0, none⟩) X.length c])) (hz : ZRow w4 w5 n5 c5) :
    Chunks M (.slice A4 (vs.length + 1) c4) (vs ++ [.slice (some ⟨g, 0, none⟩) X.length c]) (Cs ++ [X]) w4.heap.size w5 := by
  have hp := ((h.bvs.of (Nat.le_refl _) (fun _ _ _ => rfl) (fun j hj _ => ⟨hj.1.1, hj.2⟩) : BVs w3 (fun j => M ≤ j ∧ (Value.slice A0 vs.length c0).ownBlock ≠ some j) vs Cs)).push hone hap
  refine ⟨hap.own.below hz.below, hp.of (by have := hz.size; omega) (fun j _ hl => hz.below.block j hl) (fun j hj hl => ⟨⟨hj.1, by omega⟩, hj.2⟩), ?_, fun e => ?_⟩
  · have h1 := h.many
    have h2 : (Cs ++ [X]).flatten.length = Cs.flatten.length + X.length := by rw [List.flatten_append, List.length_append]; simp
    have h3 : (vs ++ [Value.slice (some ⟨g, 0, none⟩) X.length c]).length = vs.length + 1 := List.length_append
    rw [h2, h3, Nat.add_mul, Nat.one_mul]
    exact Nat.add_le_add h1 hX
  · have := (hap.own.lt _ e).2
    omega
theorem Lay.ge {K : Und} {base p bb : Nat} (h : Lay K base p bb) : ∀ k, Rd.S K p bb k → base ≤ k := by
  intro k hk
  rcases hk with rfl | rfl | hk
  · exact h.bp
  · exact h.bb_
  · exact h.bo k hk
theorem OB.ge {w : World} {base n c : Nat} {A : Option Addr} {l : List UInt8} (h : OB w base (.slice A n c) l) : ∀ g o, A = some ⟨g, o, none⟩ → base ≤ g := by
  rintro g o rfl
  exact (h.lt g rfl).1
theorem OV.read {w : World} {base n c : Nat} {A : Option Addr} {vs : List Value} (h : OV w base (.slice A n c) vs) : VR w A vs := by
  obtain ⟨A', c', e, _, _, hv⟩ := h.form
  injection e with e _ _
  subst e
  exact hv
/-- What is known of a round's read. -/
structure RARead (K : Und) (base : Nat) (t p bb dr M g c : Nat) (A0 : Option Addr) (c0 : Nat) (vs : List Value) (Cs : List (List UInt8)) (X : List UInt8) (w w3 : World) : Prop where
  ch : Chunks M (.slice A0 vs.length c0) vs Cs g w3
  one : BV w3 (fun j => M ≤ j ∧ (Value.slice A0 vs.length c0).ownBlock ≠ some j) (.slice (some ⟨g, 0, none⟩) X.length c) X
  rb : RB w3 (some ⟨g, 0, none⟩) X
  below : Below base w w3
  size : M ≤ w3.heap.size
  gl : g < w3.heap.size
theorem RARead.mk' {K : Und} {base t p bb dr M g c c0 st st3 : Nat} {E : Nat → Addr} {gs : List Nat} {buf : Value} {A0 : Option Addr} {vs : List Value} {Cs : List (List UInt8)} {X L S1 S3 : List UInt8} {w wr w3 : World} (h : Chunks M (.slice A0 vs.length c0) vs Cs g wr)
    (hD : Dt K base E gs t p bb dr buf st wr S1) (hgot : DGot K base E gs t p bb dr buf st S1 g c 0 c L wr.drew X st3 S3 w3) (hS : ∀ j, Rd.S K p bb j → j < M) (ht : t < M) (hd : dr < M) (hg : M ≤ g) (hgl : g < wr.heap.size) (hc : c ≤ 9223372036854775807) (hb : Below base w wr) (hbm : base ≤ M) : RARead K base t p bb dr M g c A0 c0 vs Cs X w w3 := by
  have hC : Chg (fun k => Rd.S K p bb k ∨ k = g ∨ k = dr ∨ k = t) wr w3 := ((Chg.refl _ wr).drew).trans hgot.chg
  have hch := h.chg hC (fun j hj => by
    rcases hj with hj | hj | hj | hj
    · exact .inr (hS j hj)
    · exact .inl hj
    · exact .inr (by omega)
    · exact .inr (by omega))
  obtain ⟨L', hrow, hL, _⟩ := hgot.row
  have hrb : RB w3 (some ⟨g, 0, none⟩) X := hrow.rb 0 X (by simpa using hL) (by have := hgot.le; omega)
  have hsz := hC.size
  refine ⟨hch, ⟨g, c, rfl, hgot.le, hc, hrb, by omega, hg, h.ne⟩, hrb, hb.trans (hC.below (fun j hj e => ?_) (by have := hb.size; have := hD.rs.size; omega)), by omega, by omega⟩
  rcases e with e | e | e | e
  · have := hD.rs.lay.ge j e; omega
  · omega
  · have := hD.bd; omega
  · have := hD.bt; omega
/-- One of the chunks. -/
theorem BVs.at_ {w : World} {P : Nat → Prop} {vs : List Value} {ss : List (List UInt8)} (h : BVs w P vs ss) {k : Nat} (hk : k < vs.length) : ∃ v s, vs[k]? = some v ∧ ss[k]? = some s ∧ BV w P v s := by
  have h1 := List.getElem?_eq_getElem hk
  have h2 := List.getElem?_eq_getElem (l := ss) (i := k) (by rw [← h.1]; exact hk)
  exact ⟨_, _, h1, h2, h.2 k _ _ h1 h2⟩
theorem flatten_take_le (Cs : List (List UInt8)) (k : Nat) : (Cs.take k).flatten.length ≤ Cs.flatten.length := by
  have h : Cs.flatten = (Cs.take k).flatten ++ (Cs.drop k).flatten := by rw [← List.flatten_append, List.take_append_drop]
  rw [h, List.length_append]
  omega
theorem flatten_take_succ {Cs : List (List UInt8)} {k : Nat} {s : List UInt8} (h : Cs[k]? = some s) : (Cs.take (k + 1)).flatten = (Cs.take k).flatten ++ s := by
  rw [List.take_add_one, h]
  simp
/-- The second loop's relation: the chunks are joined. -/
def RAJoin (vs : List Value) (Cs : List (List UInt8)) (w3 : World) (gk : Nat) (u10 u54 : Value) (wr : World) : Prop :=
  ∃ k : Nat, k + gk = vs.length ∧ u54 = .int .i64 k ∧ OB wr w3.heap.size u10 (Cs.take k).flatten ∧ Below w3.heap.size w3 wr
theorem mk512 (w : World) : (Instr.makeSlice 24 (.int .i64 0) (.int .i64 512)).run Tryd.prog w = .ok (.slice (some ⟨w.heap.size, 0, none⟩) 0 512) (w.alloc (.cells (zeroRow 512) 5)) := by
  obtain ⟨i0, hi, hz0, hz1, hz2⟩ := info_parts Tryd.infoU
  have h := run_makeSlice (P := Tryd.prog) w 24 5 i0 (.int .u8 0) Tryd.underlying24 hi hz0 .i64 .i64 0 512 (by decide) (by decide) (by rw [hz1]; decide) (by rw [hz2]; decide) (by decide)
  rw [hz1] at h
  exact h
theorem mk4 (w : World) : (Instr.makeSlice 22 (.int .i64 0) (.int .i64 4)).run Tryd.prog w = .ok (.slice (some ⟨w.heap.size, 0, none⟩) 0 4) (w.alloc (.cells (madeCells #[.slice none 0 0] 4) 24)) := by
  obtain ⟨i0, hi, hz0, hz1, hz2⟩ := info_parts Tryd.infoBs
  have h := run_makeSlice (P := Tryd.prog) w 22 24 i0 (.slice none 0 0) Tryd.underlying22 hi hz0 .i64 .i64 0 4 (by decide) (by decide) (by rw [hz1]; decide) (by rw [hz2]; decide) (by decide)
  rw [hz1] at h
  exact h
set_option maxRecDepth 200000 in
set_option maxHeartbeats 16000000 in
theorem readAll_any {K : Und} (hK : FillOK K) {base t p bb dr : Nat} {E : Nat → Addr} {gs : List Nat} {buf : Value} {w : World} {S : List UInt8} (h : Dt K base E gs t p bb dr buf 0 w S) (hg : 1 ∈ gs) (hk : 2 ∈ gs) (hS : S.length ≤ 4398046511104) :
    Calls Tryd.prog 62 #[.iface 107 (.pointer (some ⟨dr, 0, none⟩))] w (ReadAllEnd K base E gs t p bb buf S w) := by
  have m512 := mk512
  have m4 := mk4
  have H := Lib.hid h
  clear h
  go_enter Tryd.func62, Tryd.ntmps62
  go_wp2
  go_loopg [4, 5, 6, 7, 8, 9] (2 * S.length + 1) (fun gk u4 u5 u6 u7 _ _ wr => RARel K base E gs t p bb dr buf w.heap.size S w gk u4 u5 u6 u7 wr)
  case atStart =>
    have hD := H.out
    have hb1 : Below w.heap.size w (w.alloc (.cells (zeroRow 512) 5)) := (Below.refl _ _).alloc (Nat.le_refl _) _
    have hb2 : Below w.heap.size w ((w.alloc (.cells (zeroRow 512) 5)).alloc (.cells (madeCells #[.slice none 0 0] 4) 24)) := hb1.alloc (by simp) _
    have hB := Blk.new (w.alloc (.cells (zeroRow 512) 5)) (madeCells #[.slice none 0 0] 4) 24
    rw [World.size_alloc] at hB
    refine ⟨0, S, [], [], w.heap.size, 512, 256, List.replicate 512 0, rfl, rfl, rfl, ⟨OV.made hB (by omega) (by decide) (size_madeCells _ _), BVs.nil _ _, by simp, by simp [Value.ownBlock]⟩, hD.belowN hb2 hD.S_lt hD.tp.lt hD.blk.lt, by decide, by simp, RowB.zero ((Blk.new w _ _).alloc _), Nat.le_refl _, by simp; omega, by decide, by decide, by decide, by simp, by decide, by have := dots_out S 0; omega, hb2.mono hD.rs.size, by simp; omega⟩
  case round =>
    obtain ⟨st, S1, vs, Cs, g, c, nx, L, rfl, rfl, rfl, hch, hD, hst, hdt, hrow, hMg, hgl, hc, hc2, hnx, hnx2, hnx3, hgk, hb, hM⟩ := hrel
    obtain ⟨A0, c0, hu0, _, _, _⟩ := hch.own.form
    subst hu0
    have hdM : dr < w.heap.size := H.out.blk.lt
    have htM : t < w.heap.size := H.out.tp.lt
    have hSM : ∀ j, Rd.S K p bb j → j < w.heap.size := H.out.S_lt
    have hbw := hD.rs.size
    have hread := dotRead_any hK (Dt.belowN hD (w' := wr.drew) (N := wr.heap.size) ⟨rfl, rfl, rfl, Nat.le_refl _, fun _ _ => rfl⟩ hD.S_lt hD.tp.lt hD.blk.lt) hst hg hk (g := g) (N := c) (o := 0) (n := c) (c := c) (L := L) (hrow.same rfl) (by omega) hgl (Nat.le_refl _) hc2 (by omega) (by omega) (fun e => by have := hSM _ e; omega) (by have := H.out.rs.size; omega)
    have hlen : Cs.flatten.length ≤ 8796093022208 := by
      have h1 := dots_out S 0
      rw [hdt, List.length_append] at h1
      omega
    generalize hF : Cs.flatten.length = F at hnx2 hlen ⊢
    have HFF := Lib.hid hF
    clear hF
    have hci : (256 : Int) ≤ (c : Int) := by omega
    have hci2 : (c : Int) ≤ 9223372036854775807 := by omega
    have hnx4 : nx ≤ 17592186044672 := by omega
    have HD := Lib.hid hread
    have HK := Lib.hid (And.intro hch (And.intro hD (And.intro hst (And.intro hdt (And.intro hrow (And.intro hMg (And.intro hgl (And.intro hgk (And.intro hb hM)))))))))
    have HN := Lib.hid (And.intro hc (And.intro hc2 (And.intro hnx (And.intro hnx2 (And.intro hnx3 hlen)))))
    have HM := Lib.hid (And.intro hdM (And.intro htM (And.intro hSM hbw)))
    clear hread hch hD hst hdt hrow hMg hgl hgk hb hM hdM htM hSM hbw
    have hah := Tryd.ahead 261 ⟨dr, 0, none⟩
    simp only [show 261 + 1 = 262 from rfl] at hah
    go_wp2
    go_region_held3 (fun _ => True) (trivial)
      (first | (go_at_call 70; refine HD.out.mono ?_; rintro e w3 ⟨X, st3, S3, er, rfl, hgot, hcase⟩; have hXm := hgot.le; have H3 := Lib.hid (And.intro hgot hcase); clear hgot; have her : er = .nil ∨ er = .sent 1 ∨ er = .sent 2 := (by rcases hcase with h | h | h; exact .inl h.1; exact .inr (.inl h.1); exact .inr (.inr h.1)); clear hcase))
    have hA : RARead K base t p bb dr w.heap.size g c A0 c0 vs Cs X w w3 := by
      obtain ⟨hch, hD, hst, hdt, hrow, hMg, hgl, hgk, hb, hM⟩ := HK.out
      exact RARead.mk' hch hD H3.out.1 HM.out.2.2.1 HM.out.2.1 HM.out.1 hMg hgl hc2 hb H.out.rs.size
    have hvl : (vs.length + 1) * 24 ≤ 140737488355328 := by have := hA.ch.many; rw [HFF.out] at this; omega
    have hFX : F + X.length ≤ 8796093022208 := by
      have h1 := dots_out S 0
      rw [HK.out.2.2.2.1, H3.out.1.dots] at h1
      simp only [List.length_append, HFF.out] at h1
      omega
    have hFi : (F : Int) + (X.length : Int) ≤ 8796093022208 := by omega
    have hvi : (vs.length : Int) ≤ 9223372036854775807 := by omega
    rcases her with rfl | hee
    · have hXc : X.length = c := by
        rcases H3.out.2 with h | h | h
        · exact h.2.1
        · cases h.1
        · cases h.1
      subst hXc
      have hD3 : Dt K base E gs t p bb dr buf st3 w3 S3 := by
        rcases H3.out.2 with h | h | h
        · exact h.2.2.2
        · cases h.1
        · cases h.1
      have hq : (0 : Int) < (X.length : Int).tdiv 16 := by rw [Int.tdiv_eq_ediv_of_nonneg (by omega)]; omega
      have HA := Lib.hid (And.intro hA (And.intro hvl hD3))
      clear hA hvl hD3
      simp only [Er.val]
      go_wp2_with (first
        | ((with_reducible refine at_appendV ?_); refine wpList_append_V1 rfl (.tmp 76) (.tmp 78) 22 Tryd.underlying22 rfl w.heap.size (.slice A0 vs.length c0) vs rfl (HA.out.1.ch.own.alloc _) w3.heap.size (.slice (some ⟨g, 0, none⟩) X.length X.length) 1 rfl rfl (cell_one' _ _ _) HA.out.2.1 (by rw [World.size_alloc]; have := HA.out.1.size; omega) (vs.length + 1) rfl ?_; intro A4 c4 w4 hap; have HP := Lib.hid hap; clear hap)
        | ((with_reducible refine at_zeros ?_); refine wpList_zeros rfl (.const (.slice none 0 0)) (.tmp 84) rfl nx rfl rfl (by omega) (by omega) ?_; intro c5 w5 hz; have HZ := Lib.hid hz; clear hz))
      go_roundg ((dots st3 S3).1.length + 1)
      case measure =>
        have hgk := HK.out.2.2.2.2.2.2.2.1
        rw [H3.out.1.dots, List.length_append] at hgk
        omega
      case rel =>
        obtain ⟨hch, hD, hst, hdt, hrow, hMg, hgl, hgk, hb, hM⟩ := HK.out
        obtain ⟨hA, hvl, hD3⟩ := HA.out
        have hap := HP.out
        have hz := HZ.out
        have hfl : (Cs ++ [X]).flatten.length = F + X.length := by rw [List.flatten_append, List.length_append, HFF.out]; simp
        have hsz := hA.size
        have hb4 : Below w.heap.size w3 w4 := ((Below.refl _ _).alloc hsz _).trans (hap.below (hA.ch.own.alloc _) (by rw [World.size_alloc]; omega))
        have hs4 := hb4.size
        have hb5 := hb4.trans (hz.below.mono (by omega))
        have hs5 := hz.size
        have hc5 := hz.le
        refine ⟨st3, S3, vs ++ [.slice (some ⟨g, 0, none⟩) X.length X.length], Cs ++ [X], w4.heap.size, c5, nx + nx / 2, List.replicate c5 0, rfl, congrArg (Value.int .i64) (by omega), congrArg (Value.int .i64) (by rw [hfl]; omega), hA.ch.next hA.one hc hap hz, hD3.belowN hb5 HM.out.2.2.1 HM.out.2.1 HM.out.1, H3.out.1.st5, by rw [hdt, H3.out.1.dots]; simp, hz.row, by omega, by omega, by omega, hz.le', by omega, by rw [hfl]; omega, by omega, Nat.lt_succ_self _, hA.below.trans (hb5.mono H.out.rs.size), by omega⟩
    · have hT : Tp K base E gs t p bb buf w3 S3 := by
        rcases H3.out.2 with h | h | h
        · rcases hee with rfl | rfl <;> cases h.1
        · exact h.2.2
        · obtain ⟨_, rfl, _, h⟩ := h; exact h
      have hfin : ∀ (er2 : Er) (A : Option Addr) (n c' : Nat) (X2 : List UInt8) (w' : World), ((er = .sent 1 ∧ er2 = .nil) ∨ (er = .sent 2 ∧ er2 = er)) → Below w3.heap.size w3 w' → X2 = Cs.flatten ++ X → n = X2.length → RB w' A X2 → (∀ g o, A = some ⟨g, o, none⟩ → w.heap.size ≤ g) → ReadAllEnd K base E gs t p bb buf S w (.returned (.tuple #[.slice A n c', er2.val E])) w' := by
        rintro er2 A n c' X2 w' hcs hb' rfl rfl hrb hA2
        obtain ⟨hch, hD, hst, hdt, hrow, hMg, hgl, hgk, hb, hM⟩ := HK.out
        refine ⟨Cs.flatten ++ X, A, c', st3, er2, S3, rfl, hrb, hA2, by rw [hdt, H3.out.1.dots]; simp, ?_, hA.below.trans (hb'.mono (by have := hA.size; have := H.out.rs.size; omega))⟩
        have hT' := hT.below hb'
        rcases hcs with ⟨rfl, rfl⟩ | ⟨rfl, rfl⟩
        · rcases H3.out.2 with h | h | h
          · cases h.1
          · exact .inl ⟨rfl, h.2.1, hT'⟩
          · cases h.1
        · rcases H3.out.2 with h | h | h
          · cases h.1
          · cases h.1
          · obtain ⟨_, rfl, h5, _⟩ := h
            exact .inr ⟨rfl, rfl, h5, hT'⟩
      have hs3 := hT.sens.s
      have gE := (hs3.sen _ hg).cell
      have h0 := fun w => es_same E 1 w
      have h1 := es_other hs3 hk hg (by decide)
      have hFl : 0 < vs.length → 0 < F := fun h => by have := hA.ch.many; rw [HFF.out] at this; omega
      have HF := Lib.hid hfin
      have HA := Lib.hid (And.intro hA hFl)
      clear hfin hA hvl hFl hT hs3
      by_cases hv : vs.length = 0
      · have hCs : Cs = [] := List.eq_nil_of_length_eq_zero (by rw [← HA.out.1.ch.bvs.1]; exact hv)
        have HC := Lib.hid hCs
        clear hCs
        rcases hee with rfl | rfl
        all_goals
          simp only [Er.val]
          go_wp2
          go_ret2
          first
          | exact HF.out .nil (some ⟨g, 0, none⟩) X.length c X w3 (.inl ⟨by trivial, rfl⟩) (Below.refl _ _) (by rw [HC.out]; rfl) rfl HA.out.1.rb (fun g' o e => by injection e with e; injection e with e1 _; subst e1; exact HK.out.2.2.2.2.2.1)
          | exact HF.out (.sent 2) (some ⟨g, 0, none⟩) X.length c X w3 (.inr ⟨by trivial, rfl⟩) (Below.refl _ _) (by rw [HC.out]; rfl) rfl HA.out.1.rb (fun g' o e => by injection e with e; injection e with e1 _; subst e1; exact HK.out.2.2.2.2.2.1)
      · have hvn : ((vs.length : Int) == 0) = false := by rw [beq_eq_false_iff_ne]; omega
        rcases hee with rfl | rfl
        all_goals
          simp only [Er.val]
          go_wp2_with (((with_reducible refine at_zeros ?_); refine wpList_zeros rfl (.const (.slice none 0 0)) (.tmp 49) rfl (F + X.length) rfl rfl (by have := HA.out.2 (by omega); omega) (by omega) ?_; intro c5 w5 hz; have HZ := Lib.hid hz; clear hz))
          go_loopg [10, 12, 54] vs.length (fun gk2 u10 _ u54 wr2 => RAJoin vs Cs w3 gk2 u10 u54 wr2)
          case atStart => exact ⟨0, Nat.zero_add _, rfl, HZ.out.own, HZ.out.below⟩
          case round =>
            obtain ⟨k, hkg, rfl, hown, hbk⟩ := hrel
            have hfle := flatten_take_le Cs k
            rw [HFF.out] at hfle
            generalize hacc : (Cs.take k).flatten = acc at hown hfle
            obtain ⟨A6, c6, hu6, _, _, _⟩ := hown.form
            subst hu6
            by_cases hlt : k < vs.length
            · obtain ⟨v, s, hvk, hsk, gv, cv, rfl, hsl, hcv, hrb, hgv, _⟩ := HA.out.1.ch.bvs.at_ hlt
              obtain ⟨ga, oa, rfl, hx⟩ := HA.out.1.ch.own.read (by rintro rfl; simp at hlt)
              have hcell := (hbk.cell (p := ⟨ga, oa + k, none⟩) (World.block_lt_of_cell? _ _ (hx k _ hvk))).trans (hx k _ hvk)
              have hrb2 := hrb.below hbk
              have hal : acc.length + s.length ≤ 140737488355328 := by
                have h1 := flatten_take_le Cs (k + 1)
                rw [flatten_take_succ hsk, hacc, List.length_append, HFF.out] at h1
                omega
              have hki : (k : Int) < (vs.length : Int) := by omega
              have HX := Lib.hid (And.intro hacc (And.intro hown (And.intro hbk (And.intro hrb2 (And.intro hal hsk)))))
              clear hacc hown hbk hrb2 hal hsk hx hvk hrb hgv
              go_wp2_with ((with_reducible refine at_appendB ?_); refine wpList_append_B rfl (.tmp 58) (.tmp 59) rfl w3.heap.size (.slice A6 acc.length c6) acc rfl HX.out.2.1 (some ⟨gv, 0, none⟩) s s.length cv rfl rfl HX.out.2.2.2.1 HX.out.2.2.2.2.1 HX.out.2.2.1.size (acc.length + s.length) rfl _ rfl ?_; intro A7 c7 w7 hap; have HP := Lib.hid hap; clear hap)
              go_roundg (gk - 1)
              case measure => omega
              case rel =>
                obtain ⟨hacc, hown, hbk, hrb2, hal, hsk⟩ := HX.out
                exact ⟨k + 1, by omega, by go_num, by rw [flatten_take_succ hsk, hacc]; exact HP.out.own, hbk.trans (HP.out.below hown hbk.size)⟩
            · have hacc2 : acc = Cs.flatten := by
                rw [← hacc, List.take_of_length_le (by rw [← HA.out.1.ch.bvs.1]; omega)]
              have hki : ¬ (k : Int) < (vs.length : Int) := by omega
              have hrb2 := HA.out.1.rb.below hbk
              have HX := Lib.hid (And.intro hacc2 (And.intro hown (And.intro hbk hrb2)))
              clear hacc hacc2 hown hbk hrb2
              go_wp2_with ((with_reducible refine at_appendB ?_); refine wpList_append_B rfl (.tmp 62) (.tmp 63) rfl w3.heap.size (.slice A6 acc.length c6) acc rfl HX.out.2.1 (some ⟨g, 0, none⟩) X X.length c rfl rfl HX.out.2.2.2 (by omega) HX.out.2.2.1.size (acc.length + X.length) rfl _ rfl ?_; intro A7 c7 w7 hap; have HP := Lib.hid hap; clear hap)
              go_ret2
              have hend := HX.out.2.2.1.trans (HP.out.below HX.out.2.1 HX.out.2.2.1.size)
              have hsz := HA.out.1.size
              first
              | exact HF.out .nil A7 (acc.length + X.length) c7 (acc ++ X) w7 (.inl ⟨by trivial, rfl⟩) hend (by rw [HX.out.1]) (by rw [List.length_append]) HP.out.read (fun g' o e => Nat.le_trans hsz (HP.out.own.ge g' o e))
              | exact HF.out (.sent 2) A7 (acc.length + X.length) c7 (acc ++ X) w7 (.inr ⟨by trivial, rfl⟩) hend (by rw [HX.out.1]) (by rw [List.length_append]) HP.out.read (fun g' o e => Nat.le_trans hsz (HP.out.own.ge g' o e))
end Go.Proofs.YteiiocibldpioaaDoor
