/- The walk of impl.DotReads: a block read by reads of some sizes. -/
import Derived.Test.YteiiocibldpioaaDoorRdV
import Derived.Test.YteiiocibldpioaaDoorOwnV
import Derived.Deep.LoopGhost
namespace Go.Proofs.YteiiocibldpioaaDoor
open Go.RowKit

/-- A slice's address under which the numbers zs lie (of an empty slice nothing is said). -/
def IL (w : World) (A : Option Addr) (zs : List Int) : Prop :=
  zs ≠ [] → ∃ g o, A = some ⟨g, o, none⟩ ∧ ∀ (i : Nat) (z : Int), zs[i]? = some z → w.cell? ⟨g, o + i, none⟩ = some (.int .i64 z)
theorem IL.nil (w : World) (A : Option Addr) : IL w A [] := fun h => absurd rfl h
theorem IL.lt {w : World} {A : Option Addr} {ls : List Int} (h : IL w A ls) : ∀ g o, A = some ⟨g, o, none⟩ → ls ≠ [] → g < w.heap.size := by
  intro g o e hne
  obtain ⟨g', o', he, hx⟩ := h hne
  rw [e] at he; injection he with he; injection he with h1 h2; subst h1; subst h2
  rcases ls with _ | ⟨s, t⟩
  · exact absurd rfl hne
  · exact World.block_lt_of_cell? _ _ (hx 0 s rfl)
theorem IL.below {w w' : World} {A : Option Addr} {ls : List Int} (h : IL w A ls) (hb : Below w.heap.size w w') : IL w' A ls := by
  intro hne
  obtain ⟨g, o, he, hx⟩ := h hne
  have hlt := h.lt g o he hne
  exact ⟨g, o, he, fun i s hs => (hb.cell (p := ⟨g, o + i, none⟩) hlt).trans (hx i s hs)⟩
/-- What reads of sizes zs give of a stream. -/
structure ReadsSay (S : List UInt8) (zs : List Int) (ss : List (List UInt8)) (er : Er) : Prop where
  le : ∀ (i : Nat) (s : List UInt8), ss[i]? = some s → ∃ z, zs[i]? = some z ∧ (s.length : Int) ≤ max 0 z
  len : ss.length ≤ zs.length
  out : ∃ (st : Nat) (S' : List UInt8), dots 0 S = (ss.flatten ++ (dots st S').1, (dots st S').2) ∧ ((er = .nil ∧ ss.length = zs.length) ∨ (er = .sent 1 ∧ st = 5) ∨ (er = .sent 2 ∧ S' = [] ∧ st ≠ 5))
/-- What impl.DotReads leaves. -/
def DotReadsEnd (S : List UInt8) (zs : List Int) (w : World) (e : Ending) (w' : World) : Prop :=
  ∃ (vs : List Value) (ss : List (List UInt8)) (A : Option Addr) (c : Nat) (er : Er), e = .returned (.tuple #[.slice A vs.length c, .int .i64 er.num]) ∧ ReadsSay S zs ss er ∧ VR w' A vs ∧ BVs w' (fun _ => True) vs ss ∧ Below w.heap.size w w'
/-- The loop's relation. -/
def DReadsRel (K : Und) (base : Nat) (E : Nat → Addr) (gs : List Nat) (t p bb dr : Nat) (buf : Value) (M : Nat) (S : List UInt8) (zs : List Int) (w : World) (gk : Nat) (u6 u18 : Value) (wr : World) : Prop :=
  ∃ (k : Nat) (vs : List Value) (ss : List (List UInt8)) (st : Nat) (S1 : List UInt8), k + gk = zs.length ∧ u18 = .int .i64 k ∧ OV wr M u6 vs ∧ BVs wr (fun g => M ≤ g ∧ u6.ownBlock ≠ some g) vs ss ∧ ss.length = k ∧
    (∀ (i : Nat) (s : List UInt8), ss[i]? = some s → ∃ z, zs[i]? = some z ∧ (s.length : Int) ≤ max 0 z) ∧ dots 0 S = (ss.flatten ++ (dots st S1).1, (dots st S1).2) ∧ st ≤ 5 ∧ Dt K base E gs t p bb dr buf st wr S1 ∧ Below base w wr ∧ M ≤ wr.heap.size
theorem Dt.S_lt {K : Und} {base t p bb dr : Nat} {E : Nat → Addr} {gs : List Nat} {buf : Value} {st : Nat} {w : World} {S : List UInt8} (h : Dt K base E gs t p bb dr buf st w S) : ∀ k, Rd.S K p bb k → k < w.heap.size := Rs.S_lt h.rs
theorem Dt.belowN {K : Und} {base t p bb dr : Nat} {E : Nat → Addr} {gs : List Nat} {buf : Value} {st : Nat} {w w' : World} {S : List UInt8} (h : Dt K base E gs t p bb dr buf st w S) {N : Nat} (hb : Below N w w') (hN : ∀ k, Rd.S K p bb k → k < N) (ht : t < N) (hd : dr < N) : Dt K base E gs t p bb dr buf st w' S :=
  ⟨h.bt, h.bd, h.td, h.ts, h.ds, h.tp.same (hb.block t ht), h.blk.same (hb.block dr hd), Rs.below h.rs hb hN⟩
theorem ReadsSay.le_snoc {zs : List Int} {ss : List (List UInt8)} {k : Nat} {z : Int} {X : List UInt8} (hle : ∀ (i : Nat) (s : List UInt8), ss[i]? = some s → ∃ z, zs[i]? = some z ∧ (s.length : Int) ≤ max 0 z) (hk : ss.length = k) (hz : zs[k]? = some z) (hx : (X.length : Int) ≤ max 0 z) :
    ∀ (i : Nat) (s : List UInt8), (ss ++ [X])[i]? = some s → ∃ z, zs[i]? = some z ∧ (s.length : Int) ≤ max 0 z := by
  intro i s hs
  by_cases hi : i < ss.length
  · rw [List.getElem?_append_left hi] at hs
    exact hle i s hs
  · rw [List.getElem?_append_right (by omega)] at hs
    rcases hj : i - ss.length with _ | j
    · rw [hj] at hs
      simp at hs
      subst hs
      exact ⟨z, by rw [show i = k by omega]; exact hz, hx⟩
    · rw [hj] at hs; simp at hs
/-- Behind a read: what the walk goes on with. -/
structure DRAfter (q sb base : Nat) (E : Nat → Addr) (gs : List Nat) (t p bb dr M : Nat) (A0 : Option Addr) (c0 : Nat) (vs : List Value) (ss : List (List UInt8)) (gb m : Nat) (X : List UInt8) (wr w3 : World) : Prop where
  own : OV w3 M (.slice A0 vs.length c0) vs
  bvs : BVs w3 (fun g => M ≤ g ∧ (Value.slice A0 vs.length c0).ownBlock ≠ some g) vs ss
  one : BV w3 (fun g => M ≤ g ∧ (Value.slice A0 vs.length c0).ownBlock ≠ some g) (.slice (some ⟨gb, 0, none⟩) X.length m) X
  size : wr.heap.size ≤ w3.heap.size
theorem DRAfter.mk' {q sb base t p bb dr M c0 gb m : Nat} {E : Nat → Addr} {gs : List Nat} {A0 : Option Addr} {vs : List Value} {ss : List (List UInt8)} {X : List UInt8} {wr w3 : World} {cs : Array Value} {ty : TypeId} {L' : List UInt8}
    (hown : OV wr M (.slice A0 vs.length c0) vs) (hbv : BVs wr (fun g => M ≤ g ∧ (Value.slice A0 vs.length c0).ownBlock ≠ some g) vs ss) (hgb : gb = wr.heap.size) (hM : M ≤ wr.heap.size)
    (hS : ∀ k, Rd.S (KB q sb) p bb k → k < M) (ht : t < M) (hd : dr < M) (hm : m ≤ 9223372036854775807) (hX : X.length ≤ m)
    (hrow : RowB w3 gb m L') (hL : (L'.drop 0).take X.length = X) (hC : Chg (fun k => Rd.S (KB q sb) p bb k ∨ k = gb ∨ k = dr ∨ k = t) (wr.alloc (.cells cs ty)) w3) : DRAfter q sb base E gs t p bb dr M A0 c0 vs ss gb m X wr w3 := by
  have hsz : wr.heap.size + 1 ≤ w3.heap.size := by have := hC.size; rw [World.size_alloc] at this; exact this
  have hbl : ∀ k, M ≤ k → k < wr.heap.size → w3.heap[k]? = wr.heap[k]? := fun k h1 h2 =>
    (hC.block k (by rw [World.size_alloc]; omega) (fun e => by rcases e with e | e | e | e; have := hS k e; omega; omega; omega; omega)).trans (Below.heap_alloc wr _ k h2)
  refine ⟨hown.of_blocks (fun k hk hk2 => hbl k (hown.lt k hk).1 hk2), hbv.of (by omega) (fun g hg hg2 => hbl g hg.1 hg2) (fun g hg _ => hg), ⟨gb, m, rfl, hX, hm, hrow.rb 0 X hL (by omega), by omega, by omega, fun e => ?_⟩, by omega⟩
  have := (hown.lt gb e).2
  omega
set_option maxRecDepth 200000 in
set_option maxHeartbeats 2000000 in
theorem implDotReads_any {w : World} {E : Nat → Addr} {gs : List Nat} (hs : Sens w E gs) (hg : 1 ∈ gs) (hk : 2 ∈ gs) {A : Option Addr} {n c : Nat} {S : List UInt8} (hn : n = S.length) (hr : RB w A S) (hS : S.length ≤ 4398046511104)
    {A2 : Option Addr} {n2 c2 : Nat} {zs : List Int} (hn2 : n2 = zs.length) (hz : IL w A2 zs) (hzl : zs.length ≤ 1048576) :
    Calls Tryd.prog 25 #[.slice A n c, .slice A2 n2 c2] w (DotReadsEnd S zs w) := by
  subst hn2
  have hmk := reader_any (c := c) hs hn hr (by omega)
  have H := Lib.hid (And.intro hmk (And.intro hz hs))
  clear hmk hr hs hn hz
  go_enter Tryd.func25, Tryd.ntmps25
  go_wp2_with (first
    | (go_at_call 45; refine H.out.1.mono ?_; rintro e w1 ⟨q, sb, t, p, bb, rfl, hqs, hT1, hb1⟩; have H1 := Lib.hid (And.intro hqs (And.intro hT1 hb1)); clear hqs hT1 hb1)
    | (go_at_call 46; refine (dotReader_any H1.out.2.1).mono ?_; rintro e w2 ⟨rfl, hD2, hC2⟩; have H2 := Lib.hid (And.intro hD2 hC2); clear hD2 hC2))
  go_loopg [6, 9, 10, 11, 12, 18] zs.length (fun gk u6 _ _ _ _ u18 wr => DReadsRel (KB q sb) w.heap.size E gs t p bb w1.heap.size (.slice none 0 0) w2.heap.size S zs w gk u6 u18 wr)
  case atStart =>
    obtain ⟨hqs, hT1, hb1⟩ := H1.out
    obtain ⟨hD2, hC2⟩ := H2.out
    exact ⟨0, [], [], 0, S, by omega, rfl, OV.nil _ _, BVs.nil _ _, rfl, fun i s h => by simp at h, by simp, by decide, hD2, hb1.trans ⟨hC2.os, hC2.tape, hC2.output, hC2.size, fun k hk => hC2.block k (by have := hb1.size; omega) (fun e => by have := hT1.1; omega)⟩, Nat.le_refl _⟩
  case round =>
    obtain ⟨k, vs, ss, st, S1, hkg, rfl, hown, hbv, hsk, hle, hdt, hst, hD, hb, hM⟩ := hrel
    obtain ⟨A0, c0, hu0, _, _, _⟩ := hown.form
    subst hu0
    have HK := Lib.hid (And.intro hown (And.intro hbv (And.intro hsk (And.intro hle (And.intro hdt (And.intro hst (And.intro hD (And.intro hb hM))))))))
    clear hown hbv hsk hle hdt hst hD hb hM
    by_cases hlt : k < zs.length
    · obtain ⟨z, hzk⟩ : ∃ z, zs[k]? = some z := ⟨zs[k], List.getElem?_eq_getElem hlt⟩
      obtain ⟨g, o, rfl, hx⟩ := H.out.2.1 (by rintro rfl; simp at hlt)
      have hcell : wr.cell? ⟨g, o + k, none⟩ = some (.int .i64 z) := (HK.out.2.2.2.2.2.2.2.1.cell (p := ⟨g, o + k, none⟩) (World.block_lt_of_cell? _ _ (hx k z hzk))).trans (hx k z hzk)
      obtain ⟨m, hm1, hm2⟩ : ∃ m : Nat, max 0 (min z 65536) = (m : Int) ∧ m ≤ 65536 := ⟨(max 0 (min z 65536)).toNat, by omega, by omega⟩
      have hmz : ∀ X : List UInt8, X.length ≤ m → (X.length : Int) ≤ max 0 z := fun X hX => by omega
      have hmk : ∀ w, (Instr.makeSlice 24 (.int .i64 (max 0 (min z 65536))) (.int .i64 (max 0 (min z 65536)))).run Tryd.prog w = .ok (.slice (some ⟨w.heap.size, 0, none⟩) m m) (w.alloc (.cells (zeroRow m) 5)) := fun w => by rw [hm1]; exact Tryd.mkB m (by omega) w
      have htM : t < w2.heap.size := by have := H1.out.2.1.t_lt; have := H2.out.2.size; omega
      have hdM : w1.heap.size < w2.heap.size := H2.out.1.blk.lt
      have hSM : ∀ j, Rd.S (KB q sb) p bb j → j < w2.heap.size := fun j hj => H2.out.1.S_lt j hj
      have hread := by
        obtain ⟨hown, hbv, hsk, hle, hdt, hst, hD, hb, hM⟩ := HK.out
        exact dotRead_any (fillB q sb H1.out.1) (hD.belowN (w' := wr.alloc (.cells (zeroRow m) 5)) ((Below.refl wr.heap.size wr).alloc (Nat.le_refl _) _) (fun j hj => hD.S_lt j hj) (by omega) (by omega)) hst hg hk (g := wr.heap.size) (N := m) (o := 0) (n := m) (c := m) (RowB.zero (Blk.new _ _ _)) (by omega) (by simp) (Nat.le_refl _) (by omega) (by omega) (by omega) (fun e => by have := hSM _ e; omega) hb.size
      have HZ := Lib.hid (And.intro hzk (And.intro hmz (And.intro htM (And.intro hdM hSM))))
      have HR := Lib.hid hread
      clear hx hzk hm1 hmz htM hdM hSM hread
      go_wp2_with (go_at_call 70; refine HR.out.mono ?_; rintro e w3 ⟨X, st3, S3, er, rfl, hgot, hcase⟩; have hXm := hgot.le; have H3 := Lib.hid (And.intro hgot hcase); clear hgot; have her : er = .nil ∨ er = .sent 1 ∨ er = .sent 2 := (by rcases hcase with h | h | h; exact .inl h.1; exact .inr (.inl h.1); exact .inr (.inr h.1)); clear hcase; rcases her with rfl | rfl | rfl <;> refine Hid.out ?_)
      · refine Lib.hid ?_
        simp only [Er.val]
        have hA : DRAfter q sb w.heap.size E gs t p bb w1.heap.size w2.heap.size A0 c0 vs ss wr.heap.size m X wr w3 := by
          obtain ⟨hown, hbv, hsk, hle, hdt, hst, hD, hb, hM⟩ := HK.out
          obtain ⟨L', hrow, hL, _⟩ := H3.out.1.row
          exact DRAfter.mk' hown hbv rfl hM HZ.out.2.2.2.2 HZ.out.2.2.1 HZ.out.2.2.2.1 (by omega) hXm hrow hL H3.out.1.chg
        have hvl : (vs.length + 1) * 24 ≤ 140737488355328 := by have := HK.out.2.1.1; have := HK.out.2.2.1; omega
        have hM := HK.out.2.2.2.2.2.2.2.2
        have HA := Lib.hid (And.intro hA (And.intro hvl hM))
        clear hA hvl hM
        go_wp2_with ((with_reducible refine at_appendV ?_); refine wpList_append_V1 rfl (.tmp 32) (.tmp 36) 22 Tryd.underlying22 rfl w2.heap.size (.slice A0 vs.length c0) vs rfl (HA.out.1.own.alloc _) w3.heap.size (.slice (some ⟨wr.heap.size, 0, none⟩) X.length m) 1 rfl rfl (cell_one' _ _ _) HA.out.2.1 (by rw [World.size_alloc]; have := HA.out.1.size; have := HA.out.2.2; omega) (vs.length + 1) rfl ?_; intro A4 c4 w4 hap; have HP := Lib.hid hap; clear hap)
        go_roundg (gk - 1)
        case measure => omega
        case rel =>
          obtain ⟨hown, hbv, hsk, hle, hdt, hst, hD, hb, hM⟩ := HK.out
          have hD3 : Dt (KB q sb) w.heap.size E gs t p bb w1.heap.size (.slice none 0 0) st3 w3 S3 := by
            rcases H3.out.2 with h | h | h
            · exact h.2.2.2
            · cases h.1
            · cases h.1
          have hap := HP.out
          have hgot := H3.out.1
          have hM3 : w2.heap.size ≤ (w3.alloc (.cells #[.slice (some ⟨wr.heap.size, 0, none⟩) X.length m] 24)).heap.size := by rw [World.size_alloc]; have := HA.out.1.size; omega
          have hb4 : Below w2.heap.size w3 w4 := ((Below.refl _ _).alloc (by have := HA.out.1.size; omega) _).trans (hap.below (HA.out.1.own.alloc _) hM3)
          refine ⟨k + 1, vs ++ [.slice (some ⟨wr.heap.size, 0, none⟩) X.length m], ss ++ [X], st3, S3, by omega, by go_num, hap.own, ?_, by simp [hsk], ReadsSay.le_snoc hle hsk HZ.out.1 (HZ.out.2.1 X hXm), ?_, hgot.st5, hD3.belowN hb4 HZ.out.2.2.2.2 HZ.out.2.2.1 HZ.out.2.2.2.1, ?_, ?_⟩
          · have := HA.out.1.bvs.push HA.out.1.one hap
            simpa using this
          · rw [hdt, hgot.dots]; simp
          · have hC := hgot.chg
            have hDl := hD.S_lt
            have hwM := H1.out.2.2.size
            have hbw : Below w.heap.size w w3 := hb.trans (((Below.refl wr.heap.size wr).alloc (Nat.le_refl _) _).mono hb.size |>.trans (hC.below (fun j hj => fun e => by
              rcases e with e | e | e | e
              · have : ∀ k, Rd.S (KB q sb) p bb k → w.heap.size ≤ k := by
                  have hl := hD.rs.lay
                  intro k hk
                  rcases hk with rfl | rfl | hk
                  · exact hl.bp
                  · exact hl.bb_
                  · exact hl.bo k hk
                have := this j e; omega
              · have := hb.size; omega
              · omega
              · have := hD.bt; omega) (by have := hb.size; rw [World.size_alloc]; omega)))
            exact hbw.trans (hb4.mono (by have := H2.out.2.size; omega))
          · have := hb4.size; have := HA.out.1.size; omega
      · refine Lib.hid ?_
        simp only [Er.val]
        have hA : DRAfter q sb w.heap.size E gs t p bb w1.heap.size w2.heap.size A0 c0 vs ss wr.heap.size m X wr w3 := by
          obtain ⟨hown, hbv, hsk, hle, hdt, hst, hD, hb, hM⟩ := HK.out
          obtain ⟨L', hrow, hL, _⟩ := H3.out.1.row
          exact DRAfter.mk' hown hbv rfl hM HZ.out.2.2.2.2 HZ.out.2.2.1 HZ.out.2.2.2.1 (by omega) hXm hrow hL H3.out.1.chg
        have hvl : (vs.length + 1) * 24 ≤ 140737488355328 := by have := HK.out.2.1.1; have := HK.out.2.2.1; omega
        have hM := HK.out.2.2.2.2.2.2.2.2
        have hbw : Below w.heap.size w w3 := by
          obtain ⟨hown, hbv, hsk, hle, hdt, hst, hD, hb, hM⟩ := HK.out
          have hC := H3.out.1.chg
          have hwM := H1.out.2.2.size
          exact hb.trans (((Below.refl wr.heap.size wr).alloc (Nat.le_refl _) _).mono hb.size |>.trans (hC.below (fun j hj => fun e => by
              rcases e with e | e | e | e
              · have : ∀ k, Rd.S (KB q sb) p bb k → w.heap.size ≤ k := by
                  have hl := hD.rs.lay
                  intro k hk
                  rcases hk with rfl | rfl | hk
                  · exact hl.bp
                  · exact hl.bb_
                  · exact hl.bo k hk
                have := this j e; omega
              · have := hb.size; omega
              · omega
              · have := hD.bt; omega) (by have := hb.size; rw [World.size_alloc]; omega)))
        have hss : ∀ (A4 : Option Addr) (c4 : Nat) (w4 : World), AppendedV (w3.alloc (.cells #[.slice (some ⟨wr.heap.size, 0, none⟩) X.length m] 24)) w4 w2.heap.size (.slice A0 vs.length c0) A4 (vs.length + 1) c4 (vs ++ [.slice (some ⟨wr.heap.size, 0, none⟩) X.length m]) → Sens w4 E gs := fun A4 c4 w4 hap => by
          have hM3 : w2.heap.size ≤ (w3.alloc (.cells #[.slice (some ⟨wr.heap.size, 0, none⟩) X.length m] 24)).heap.size := by rw [World.size_alloc]; have := hA.size; omega
          have hb4 : Below w2.heap.size w3 w4 := ((Below.refl _ _).alloc (by have := hA.size; omega) _).trans (hap.below (hA.own.alloc _) hM3)
          exact H.out.2.2.below (hbw.trans (hb4.mono (by have := H1.out.2.2.size; have := H2.out.2.size; omega)))
        have HA := Lib.hid (And.intro hA (And.intro hvl (And.intro hM (And.intro hbw hss))))
        clear hA hvl hM hbw hss
        have hst4 := fun (w : World) (h : Sens w E gs) => state_any w h hg hk (.sent 1) hg
        have HS := Lib.hid hst4
        clear hst4
        go_wp2_with (first
          | ((with_reducible refine at_appendV ?_); refine wpList_append_V1 rfl (.tmp 32) (.tmp 36) 22 Tryd.underlying22 rfl w2.heap.size (.slice A0 vs.length c0) vs rfl (HA.out.1.own.alloc _) w3.heap.size (.slice (some ⟨wr.heap.size, 0, none⟩) X.length m) 1 rfl rfl (cell_one' _ _ _) HA.out.2.1 (by rw [World.size_alloc]; have := HA.out.1.size; have := HA.out.2.2; omega) (vs.length + 1) rfl ?_; intro A4 c4 w4 hap; have HP := Lib.hid hap; clear hap)
          | (go_at_call 47; refine (HS.out w4 (HA.out.2.2.2.2 _ _ _ HP.out)).mono ?_; rintro e w5 ⟨rfl, rfl⟩))
        go_ret2
        obtain ⟨hown, hbv, hsk, hle, hdt, hst, hD, hb, hM⟩ := HK.out
        have hap := HP.out
        have hgot := H3.out.1
        have hM3 : w2.heap.size ≤ (w3.alloc (.cells #[.slice (some ⟨wr.heap.size, 0, none⟩) X.length m] 24)).heap.size := by rw [World.size_alloc]; have := HA.out.1.size; omega
        have hb4 : Below w2.heap.size w3 w4 := ((Below.refl _ _).alloc (by have := HA.out.1.size; omega) _).trans (hap.below (HA.out.1.own.alloc _) hM3)
        have hp := HA.out.1.bvs.push HA.out.1.one hap
        refine ⟨vs ++ [.slice (some ⟨wr.heap.size, 0, none⟩) X.length m], ss ++ [X], A4, c4, .sent 1, by simp, ⟨ReadsSay.le_snoc hle hsk HZ.out.1 (HZ.out.2.1 X hXm), by simp; omega, st3, S3, by rw [hdt, hgot.dots]; simp, ?_⟩, hap.read, hp.of (Nat.le_refl _) (fun _ _ _ => rfl) (fun _ _ _ => trivial), HA.out.2.2.2.1.trans (hb4.mono (by have := H1.out.2.2.size; have := H2.out.2.size; omega))⟩
        rcases H3.out.2 with h | h | h
        · cases h.1
        · exact .inr (.inl ⟨rfl, h.2.1⟩)
        · cases h.1
      · refine Lib.hid ?_
        simp only [Er.val]
        have hA : DRAfter q sb w.heap.size E gs t p bb w1.heap.size w2.heap.size A0 c0 vs ss wr.heap.size m X wr w3 := by
          obtain ⟨hown, hbv, hsk, hle, hdt, hst, hD, hb, hM⟩ := HK.out
          obtain ⟨L', hrow, hL, _⟩ := H3.out.1.row
          exact DRAfter.mk' hown hbv rfl hM HZ.out.2.2.2.2 HZ.out.2.2.1 HZ.out.2.2.2.1 (by omega) hXm hrow hL H3.out.1.chg
        have hvl : (vs.length + 1) * 24 ≤ 140737488355328 := by have := HK.out.2.1.1; have := HK.out.2.2.1; omega
        have hM := HK.out.2.2.2.2.2.2.2.2
        have hbw : Below w.heap.size w w3 := by
          obtain ⟨hown, hbv, hsk, hle, hdt, hst, hD, hb, hM⟩ := HK.out
          have hC := H3.out.1.chg
          have hwM := H1.out.2.2.size
          exact hb.trans (((Below.refl wr.heap.size wr).alloc (Nat.le_refl _) _).mono hb.size |>.trans (hC.below (fun j hj => fun e => by
              rcases e with e | e | e | e
              · have : ∀ k, Rd.S (KB q sb) p bb k → w.heap.size ≤ k := by
                  have hl := hD.rs.lay
                  intro k hk
                  rcases hk with rfl | rfl | hk
                  · exact hl.bp
                  · exact hl.bb_
                  · exact hl.bo k hk
                have := this j e; omega
              · have := hb.size; omega
              · omega
              · have := hD.bt; omega) (by have := hb.size; rw [World.size_alloc]; omega)))
        have hss : ∀ (A4 : Option Addr) (c4 : Nat) (w4 : World), AppendedV (w3.alloc (.cells #[.slice (some ⟨wr.heap.size, 0, none⟩) X.length m] 24)) w4 w2.heap.size (.slice A0 vs.length c0) A4 (vs.length + 1) c4 (vs ++ [.slice (some ⟨wr.heap.size, 0, none⟩) X.length m]) → Sens w4 E gs := fun A4 c4 w4 hap => by
          have hM3 : w2.heap.size ≤ (w3.alloc (.cells #[.slice (some ⟨wr.heap.size, 0, none⟩) X.length m] 24)).heap.size := by rw [World.size_alloc]; have := hA.size; omega
          have hb4 : Below w2.heap.size w3 w4 := ((Below.refl _ _).alloc (by have := hA.size; omega) _).trans (hap.below (hA.own.alloc _) hM3)
          exact H.out.2.2.below (hbw.trans (hb4.mono (by have := H1.out.2.2.size; have := H2.out.2.size; omega)))
        have HA := Lib.hid (And.intro hA (And.intro hvl (And.intro hM (And.intro hbw hss))))
        clear hA hvl hM hbw hss
        have hst4 := fun (w : World) (h : Sens w E gs) => state_any w h hg hk (.sent 2) hk
        have HS := Lib.hid hst4
        clear hst4
        go_wp2_with (first
          | ((with_reducible refine at_appendV ?_); refine wpList_append_V1 rfl (.tmp 32) (.tmp 36) 22 Tryd.underlying22 rfl w2.heap.size (.slice A0 vs.length c0) vs rfl (HA.out.1.own.alloc _) w3.heap.size (.slice (some ⟨wr.heap.size, 0, none⟩) X.length m) 1 rfl rfl (cell_one' _ _ _) HA.out.2.1 (by rw [World.size_alloc]; have := HA.out.1.size; have := HA.out.2.2; omega) (vs.length + 1) rfl ?_; intro A4 c4 w4 hap; have HP := Lib.hid hap; clear hap)
          | (go_at_call 47; refine (HS.out w4 (HA.out.2.2.2.2 _ _ _ HP.out)).mono ?_; rintro e w5 ⟨rfl, rfl⟩))
        go_ret2
        obtain ⟨hown, hbv, hsk, hle, hdt, hst, hD, hb, hM⟩ := HK.out
        have hap := HP.out
        have hgot := H3.out.1
        have hM3 : w2.heap.size ≤ (w3.alloc (.cells #[.slice (some ⟨wr.heap.size, 0, none⟩) X.length m] 24)).heap.size := by rw [World.size_alloc]; have := HA.out.1.size; omega
        have hb4 : Below w2.heap.size w3 w4 := ((Below.refl _ _).alloc (by have := HA.out.1.size; omega) _).trans (hap.below (HA.out.1.own.alloc _) hM3)
        have hp := HA.out.1.bvs.push HA.out.1.one hap
        refine ⟨vs ++ [.slice (some ⟨wr.heap.size, 0, none⟩) X.length m], ss ++ [X], A4, c4, .sent 2, by simp, ⟨ReadsSay.le_snoc hle hsk HZ.out.1 (HZ.out.2.1 X hXm), by simp; omega, st3, S3, by rw [hdt, hgot.dots]; simp, ?_⟩, hap.read, hp.of (Nat.le_refl _) (fun _ _ _ => rfl) (fun _ _ _ => trivial), HA.out.2.2.2.1.trans (hb4.mono (by have := H1.out.2.2.size; have := H2.out.2.size; omega))⟩
        rcases H3.out.2 with h | h | h
        · cases h.1
        · cases h.1
        · exact .inr (.inr ⟨rfl, h.2.1, h.2.2.1⟩)
    · have hfin : DotReadsEnd S zs w (.returned (.tuple #[.slice A0 vs.length c0, .int .i64 0])) wr := by
        obtain ⟨hown, hbv, hsk, hle, hdt, hst, hD, hb, hM⟩ := HK.out
        obtain ⟨A4, c4, h4, _, _, hvr⟩ := hown.form
        injection h4 with h4 _ _
        subst h4
        exact ⟨vs, ss, A0, c0, .nil, rfl, ⟨hle, by omega, st, S1, hdt, .inl ⟨rfl, by omega⟩⟩, hvr, hbv.of (Nat.le_refl _) (fun _ _ _ => rfl) (fun _ _ _ => trivial), hb⟩
      have HF := Lib.hid hfin
      clear hfin
      go_wp2
      go_ret2
      exact HF.out
end Go.Proofs.YteiiocibldpioaaDoor
