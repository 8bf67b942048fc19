/- The walk of a dot reader's Read. -/
import Derived.Test.YteiiocibldpioaaDoorRdZ
import Derived.LaidEqlPtr
namespace Go.Proofs.YteiiocibldpioaaDoor
open Go.RowKit

section
variable {K : Und} {base t p bb dr : Nat} {E : Nat → Addr} {gs : List Nat} {buf : Value} {st : Nat} {w w' : World} {S S' : List UInt8}
theorem Dt.shut (h : Dt K base E gs t p bb dr buf st w S) : Tp K base E gs t p bb buf (w.setCell ⟨t, 1, none⟩ (.pointer none)) S := by
  have N : ∀ k, k ≠ t → (w.setCell ⟨t, 1, none⟩ (.pointer none)).heap[k]? = w.heap[k]? := fun k hk => Below.heap_setCell _ _ _ _ hk
  have hr := h.rs.blocks (w' := w.setCell ⟨t, 1, none⟩ (.pointer none)) (fun k hk => N k (fun e => h.ts (e ▸ hk))) ((Below.refl _ _).setCell (p := ⟨t, 1, none⟩) h.bt _)
  obtain ⟨B, U, r, z, lb, lr, h1, h2⟩ := hr
  exact ⟨h.bt, h.ts, Blk.set h.tp 1 (.pointer none), B, U, r, z, lb, lr, h1, h2⟩
theorem Rs.lt (h : Rs K base E gs p bb w S) : p < w.heap.size := by
  obtain ⟨B, U, r, z, lb, lr, h1, h2⟩ := h
  exact h1.c.lt
end
theorem Tryd.dotInfo : ∃ j, Tryd.prog.info? 109 = some j := Option.isSome_iff_exists.1 (show (Tryd.prog.info? 109).isSome = true by kernel_rfl)
theorem Tryd.eqDot (a : Addr) (w : World) : (binOp .eql 107 (.pointer (some a)) (.pointer (some a))).run Tryd.prog w = .ok (.bool true) w := by
  obtain ⟨j, hj⟩ := Tryd.dotInfo
  exact run_eql_ptr_same w a Tryd.underlying107 hj
/-- What a dot reader's Read leaves. -/
def DotReadEnd (K : Und) (base : Nat) (E : Nat → Addr) (gs : List Nat) (t p bb dr : Nat) (buf : Value) (st : Nat) (S : List UInt8) (g N o n : Nat) (L : List UInt8) (w : World) (e : Ending) (w' : World) : Prop :=
  ∃ (X : List UInt8) (st' : Nat) (S' : List UInt8) (er : Er), e = .returned (.tuple #[.int .i64 X.length, er.val E]) ∧ DGot K base E gs t p bb dr buf st S g N o n L w X st' S' w' ∧
    ((er = .nil ∧ X.length = n ∧ st' ≠ 5 ∧ Dt K base E gs t p bb dr buf st' w' S') ∨ (er = .sent 1 ∧ st' = 5 ∧ Tp K base E gs t p bb buf w' S') ∨ (er = .sent 2 ∧ S' = [] ∧ st' ≠ 5 ∧ Tp K base E gs t p bb buf w' []))
theorem DGot.shut {K : Und} {base t p bb dr st0 g N o n st : Nat} {E : Nat → Addr} {gs : List Nat} {buf : Value} {S0 L X S : List UInt8} {w wr : World} (h : DGot K base E gs t p bb dr buf st0 S0 g N o n L w X st S wr) (hgt : g ≠ t) : DGot K base E gs t p bb dr buf st0 S0 g N o n L w X st S (wr.setCell ⟨t, 1, none⟩ (.pointer none)) := by
  obtain ⟨L', h1, h2, h3⟩ := h.row
  exact ⟨h.le, h.st5, h.dots, ⟨L', h1.same (Below.heap_setCell _ _ _ _ hgt), h2, h3⟩, h.chg.setCell (p := ⟨t, 1, none⟩) (fun _ => .inr (.inr (.inr rfl))) _⟩
theorem dots_silent {s s2 : Nat} {c : UInt8} (S : List UInt8) (hs : s ≠ 5) (h : dstep s c = ([], s2)) : dots s (c :: S) = dots s2 S := by rw [dots_cons hs, h]; rfl
theorem dots_emit {s s2 : Nat} {c x : UInt8} (S : List UInt8) (hs : s ≠ 5) (h : dstep s c = ([x], s2)) : dots s (c :: S) = (x :: (dots s2 S).1, (dots s2 S).2) := by rw [dots_cons hs, h]; rfl
theorem dots_back {s : Nat} {c : UInt8} (S : List UInt8) (hs : s = 2 ∨ s = 3) (h : c ≠ 10) : dots s (c :: S) = (13 :: (dots 4 (c :: S)).1, (dots 4 (c :: S)).2) := by
  have h4 : dstep 4 c = d4 c := by simp [dstep]
  rcases hs with rfl | rfl
  · rw [dots_cons (by decide), dots_cons (by decide), h4]
    have : dstep 2 c = (13 :: (d4 c).1, (d4 c).2) := by simp [dstep, h]
    rw [this]
    rfl
  · rw [dots_cons (by decide), dots_cons (by decide), h4]
    have : dstep 3 c = (13 :: (d4 c).1, (d4 c).2) := by simp [dstep, h]
    rw [this]
    rfl
/-- The loop's relation. -/
def DRel (K : Und) (base : Nat) (E : Nat → Addr) (gs : List Nat) (t p bb dr : Nat) (buf : Value) (st : Nat) (S : List UInt8) (g N o n : Nat) (L : List UInt8) (w : World) (k : Nat) (u4 u5 : Value) (wr : World) : Prop :=
  ∃ (X : List UInt8) (st1 : Nat) (S1 : List UInt8), u4 = .int .i64 X.length ∧ u5 = .nilIface ∧ DGot K base E gs t p bb dr buf st S g N o n L w X st1 S1 wr ∧ Dt K base E gs t p bb dr buf st1 wr S1 ∧ 2 * S1.length + (if st1 = 2 ∨ st1 = 3 then 1 else 0) < k
theorem DRel.of_silent {K : Und} {base t p bb dr st0 g N o n st1 st2 k : Nat} {E : Nat → Addr} {gs : List Nat} {buf : Value} {S0 L X S1 S2 : List UInt8} {w wr w3 : World} (h : DGot K base E gs t p bb dr buf st0 S0 g N o n L w X st1 S1 wr)
    (hd : Go.Proofs.YteiiocibldpioaaDoor.dots st1 S1 = Go.Proofs.YteiiocibldpioaaDoor.dots st2 S2) (hdt : Dt K base E gs t p bb dr buf st2 w3 S2) (h5 : st2 ≤ 5) (hc : Chg (fun k => Rd.S K p bb k ∨ k = dr) wr w3) (hgs : ¬ Rd.S K p bb g) (hgd : g ≠ dr) (hgl : g < w.heap.size) (hk : 2 * S2.length + (if st2 = 2 ∨ st2 = 3 then 1 else 0) < k) :
    DRel K base E gs t p bb dr buf st0 S0 g N o n L w k (.int .i64 X.length) .nilIface w3 := ⟨X, st2, S2, rfl, rfl, h.silent hd h5 hc hgs hgd hgl, hdt, hk⟩
theorem DRel.of_emit {K : Und} {base t p bb dr st0 g N o n st1 st2 k : Nat} {E : Nat → Addr} {gs : List Nat} {buf : Value} {S0 L X S1 S2 : List UInt8} {c : UInt8} {w wr w3 : World} (h : DGot K base E gs t p bb dr buf st0 S0 g N o n L w X st1 S1 wr)
    (hd : Go.Proofs.YteiiocibldpioaaDoor.dots st1 S1 = (c :: (Go.Proofs.YteiiocibldpioaaDoor.dots st2 S2).1, (Go.Proofs.YteiiocibldpioaaDoor.dots st2 S2).2)) (hdt : Dt K base E gs t p bb dr buf st2 w3 S2) (h5 : st2 ≤ 5) (hc : Chg (fun k => Rd.S K p bb k ∨ k = dr) wr w3) (hgs : ¬ Rd.S K p bb g) (hgd : g ≠ dr) (hgt : g ≠ t) (hgb : base ≤ g) (hlt : X.length < n) (hN : o + n ≤ N) (hk : 2 * S2.length + (if st2 = 2 ∨ st2 = 3 then 1 else 0) < k) :
    DRel K base E gs t p bb dr buf st0 S0 g N o n L w k (.int .i64 ((X.length : Int) + 1)) .nilIface (w3.setCell ⟨g, o + X.length, none⟩ (.int .u8 c.toNat)) :=
  ⟨X ++ [c], st2, S2, by rw [List.length_append]; rfl, rfl, h.emit hd h5 hc hgs hgd hlt hN, hdt.setOther ⟨hgt, hgd, hgs⟩ hgb _ _, hk⟩
set_option maxRecDepth 200000 in
set_option maxHeartbeats 16000000 in
theorem dotRead_any {K : Und} (hK : FillOK K) {base t p bb dr : Nat} {E : Nat → Addr} {gs : List Nat} {buf : Value} {st : Nat} {w : World} {S : List UInt8} (h : Dt K base E gs t p bb dr buf st w S) (hst : st ≤ 5) (hg : 1 ∈ gs) (hk : 2 ∈ gs)
    {g N o n c : Nat} {L : List UInt8} (hrow : RowB w g N L) (hN : o + n ≤ N) (hgl : g < w.heap.size) (hnc : n ≤ c) (hc : c ≤ 9223372036854775807) (hgt : g ≠ t) (hgd : g ≠ dr) (hgs : ¬ Rd.S K p bb g) (hgb : base ≤ g) :
    Calls Tryd.prog 70 #[.pointer (some ⟨dr, 0, none⟩), .slice (some ⟨g, o, none⟩) n c] w (DotReadEnd K base E gs t p bb dr buf st S g N o n L w) := by
  have a0 := h.blk.cell 0
  have a1 : w.cell? ⟨t, 0, none⟩ = some (.pointer (some ⟨p, 0, none⟩)) := h.tp.c0
  replace a0 : w.cell? ⟨dr, 0, none⟩ = some (.pointer (some ⟨t, 0, none⟩)) := a0
  have H := Lib.hid (And.intro h hrow)
  clear h hrow
  go_enter Tryd.func70, Tryd.ntmps70
  go_wp2
  go_loopg [4, 5, 7] (2 * S.length + 2) (fun k u4 u5 _ wr => DRel K base E gs t p bb dr buf st S g N o n L w k u4 u5 wr)
  case atStart =>
    refine ⟨[], st, S, rfl, rfl, ⟨Nat.zero_le _, hst, by simp, ⟨L, H.out.2, by simp, rfl⟩, Chg.refl _ _⟩, H.out.1, ?_⟩
    split <;> omega
  case round =>
    obtain ⟨X, st1, S1, rfl, rfl, hgot, hdt, hms⟩ := hrel
    clear a0 a1
    have b1 : wr.cell? ⟨dr, 1, none⟩ = some (.int .i64 (st1 : Int)) := hdt.blk.cell 1
    have b0 : wr.cell? ⟨dr, 0, none⟩ = some (.pointer (some ⟨t, 0, none⟩)) := hdt.blk.cell 0
    have t1 : wr.cell? ⟨t, 1, none⟩ = some (.pointer (some ⟨dr, 0, none⟩)) := hdt.tp.c1
    have ft1 := hdt.tp.f 1
    have hE := ((hdt.rs).choose_spec.choose_spec.choose_spec.choose_spec.choose_spec.choose_spec.1.s.s.sen _ hg).cell
    have hXn := hgot.le
    have hXn2 : (X.length : Int) ≤ (n : Int) := by omega
    have H1 := Lib.hid (And.intro hgot (And.intro hdt hms))
    clear hgot hdt hms
    have hq := fun w => Tryd.eqDot ⟨dr, 0, none⟩ w
    have hfin : ∀ er : Er, ((er = .sent 1 ∧ st1 = 5) ∨ (er = .sent 2 ∧ S1 = [] ∧ st1 ≠ 5)) → DotReadEnd K base E gs t p bb dr buf st S g N o n L w (.returned (.tuple #[.int .i64 X.length, er.val E])) (wr.setCell ⟨t, 1, none⟩ (.pointer none)) := fun er he => by
      obtain ⟨hgot, hdt, hms⟩ := H1.out
      refine ⟨X, st1, S1, er, rfl, hgot.shut hgt, ?_⟩
      rcases he with ⟨e1, e2⟩ | ⟨e1, e2, e3⟩
      · exact .inr (.inl ⟨e1, e2, hdt.shut⟩)
      · have := hdt.shut
        rw [e2] at this
        exact .inr (.inr ⟨e1, e2, e3, this⟩)
    have HF := Lib.hid hfin
    clear hfin
    by_cases h5 : st1 = 5
    · subst h5
      have hlt : X.length < n ∨ X.length = n := by omega
      rcases hlt with hlt | hlt
      · go_wp2
        go_ret2
        exact HF.out (.sent 1) (.inl ⟨rfl, by trivial⟩)
      · have hlt2 : ¬ (X.length : Int) < (n : Int) := by omega
        clear hlt
        go_wp2
        go_ret2
        exact HF.out (.sent 1) (.inl ⟨rfl, by trivial⟩)
    · have h5i : ((st1 : Int) == 5) = false := by rw [beq_eq_false_iff_ne]; omega
      have h5n : ((st1 : Int) != 5) = true := by rw [bne_iff_ne]; omega
      have hlt : X.length < n ∨ X.length = n := by omega
      rcases hlt with hlt | hlt
      · have hrd := readByte_any hK H1.out.2.1.rs hg
        have HD := Lib.hid hrd
        clear hrd
        have hlti : (X.length : Int) < (n : Int) := by omega
        go_wp2_with (go_at_call 82; refine HD.out.mono ?_; rintro e w2 hbe; rcases hbe with ⟨cc, S2, B2, U2, r2, z2, hS, rfl, hR, hBU, hC⟩ | ⟨hS, rfl, hR, hC⟩ <;> refine Hid.out ?_)
        · refine Lib.hid ?_
          obtain ⟨hgot, hdt, hms⟩ := H1.out
          have hdt2 := hdt.step hC ⟨B2, U2, r2 + 1, z2, _, _, hR, hBU⟩
          have hCd : Chg (fun k => Rd.S K p bb k ∨ k = dr) wr w2 := hC.sub (fun _ _ h => .inl h)
          obtain ⟨L', hL', _, _⟩ := hgot.row
          have hrow2 := hL'.same (hC.block g (Nat.lt_of_lt_of_le hgl hgot.chg.size) hgs)
          have gcell := hrow2.cell (i := o + X.length) (by omega)
          have gfree := hrow2.free (i := o + X.length) (by omega)
          have gcell2 : ∀ v, (w2.setCell ⟨dr, 1, none⟩ v).cell? ⟨g, o + X.length, none⟩ = some (.int .u8 (L'.getD (o + X.length) 0).toNat) := fun v => by rw [World.cell?_setCell_other _ _ _ _ (by intro e; injection e with e _; exact hgd e.symm)]; exact gcell
          have gfree2 : ∀ v, (w2.setCell ⟨dr, 1, none⟩ v).frozen? ⟨g, o + X.length, none⟩ = false := fun v => by rw [World.frozen?_setCell]; exact gfree
          have e1 : w2.cell? ⟨dr, 1, none⟩ = some (.int .i64 (st1 : Int)) := hdt2.blk.cell 1
          have fe1 := hdt2.blk.free 1
          have hst5 := hgot.st5
          have H2 := Lib.hid (And.intro hgot (And.intro hdt2 (And.intro hCd (And.intro hms (And.intro hS (And.intro hR hBU))))))
          clear hgot hdt hms hdt2 hCd hL' hrow2 hS hR hBU hC b0 b1 t1 ft1 hE
          rcases (show st1 = 0 ∨ st1 = 1 ∨ st1 = 2 ∨ st1 = 3 ∨ st1 = 4 by omega) with rfl | rfl | rfl | rfl | rfl
          · -- state 0
            by_cases h46 : cc = 46
            · subst h46
              go_wp2
              go_roundg (2 * S2.length + 2)
              case measure => have := H2.out.2.2.2.1; rw [H2.out.2.2.2.2.1, List.length_cons] at this; omega
              case rel =>
                have hS := H2.out.2.2.2.2.1
                exact DRel.of_silent (k := 2 * S2.length + 2) H2.out.1 (by rw [hS]; exact dots_silent S2 (by decide) (by rfl)) (H2.out.2.1.setState 1) (by decide) (H2.out.2.2.1.setCell (p := ⟨dr, 1, none⟩) (fun _ => .inr rfl) _) hgs hgd hgl (by simp)
            have n46 : ((cc.toNat : Int) == 46) = false := by rw [beq_eq_false_iff_ne]; exact fun e => h46 ((byte_eq_iff cc 46).1 e)
            by_cases h13 : cc = 13
            · subst h13
              go_wp2
              go_roundg (2 * S2.length + 2)
              case measure => have := H2.out.2.2.2.1; rw [H2.out.2.2.2.2.1, List.length_cons] at this; omega
              case rel =>
                have hS := H2.out.2.2.2.2.1
                exact DRel.of_silent (k := 2 * S2.length + 2) H2.out.1 (by rw [hS]; exact dots_silent S2 (by decide) (by rfl)) (H2.out.2.1.setState 3) (by decide) (H2.out.2.2.1.setCell (p := ⟨dr, 1, none⟩) (fun _ => .inr rfl) _) hgs hgd hgl (by simp)
            have n13 : ((cc.toNat : Int) == 13) = false := by rw [beq_eq_false_iff_ne]; exact fun e => h13 ((byte_eq_iff cc 13).1 e)
            have hds : dstep 0 cc = ([cc], 4) := by simp [dstep, h46, h13]
            have HDS := Lib.hid hds
            clear hds h46 h13
            go_wp2
            go_roundg (2 * S2.length + 2)
            case measure => have := H2.out.2.2.2.1; rw [H2.out.2.2.2.2.1, List.length_cons] at this; omega
            case rel =>
              have hS := H2.out.2.2.2.2.1
              exact DRel.of_emit (c := cc) (k := 2 * S2.length + 2) H2.out.1 (by rw [hS]; exact dots_emit S2 (by decide) HDS.out) (H2.out.2.1.setState 4) (by decide) (H2.out.2.2.1.setCell (p := ⟨dr, 1, none⟩) (fun _ => .inr rfl) _) hgs hgd hgt hgb hlt hN (by simp)
          · -- state 1
            by_cases h13 : cc = 13
            · subst h13
              go_wp2
              go_roundg (2 * S2.length + 2)
              case measure => have := H2.out.2.2.2.1; rw [H2.out.2.2.2.2.1, List.length_cons] at this; omega
              case rel =>
                have hS := H2.out.2.2.2.2.1
                exact DRel.of_silent (k := 2 * S2.length + 2) H2.out.1 (by rw [hS]; exact dots_silent S2 (by decide) (by rfl)) (H2.out.2.1.setState 2) (by decide) (H2.out.2.2.1.setCell (p := ⟨dr, 1, none⟩) (fun _ => .inr rfl) _) hgs hgd hgl (by simp)
            have n13 : ((cc.toNat : Int) == 13) = false := by rw [beq_eq_false_iff_ne]; exact fun e => h13 ((byte_eq_iff cc 13).1 e)
            by_cases h10 : cc = 10
            · subst h10
              go_wp2
              go_roundg (2 * S2.length + 2)
              case measure => have := H2.out.2.2.2.1; rw [H2.out.2.2.2.2.1, List.length_cons] at this; omega
              case rel =>
                have hS := H2.out.2.2.2.2.1
                exact DRel.of_silent (k := 2 * S2.length + 2) H2.out.1 (by rw [hS]; exact dots_silent S2 (by decide) (by rfl)) (H2.out.2.1.setState 5) (by decide) (H2.out.2.2.1.setCell (p := ⟨dr, 1, none⟩) (fun _ => .inr rfl) _) hgs hgd hgl (by simp)
            have n10 : ((cc.toNat : Int) == 10) = false := by rw [beq_eq_false_iff_ne]; exact fun e => h10 ((byte_eq_iff cc 10).1 e)
            have hds : dstep 1 cc = ([cc], 4) := by simp [dstep, h13, h10]
            have HDS := Lib.hid hds
            clear hds h13 h10
            go_wp2
            go_roundg (2 * S2.length + 2)
            case measure => have := H2.out.2.2.2.1; rw [H2.out.2.2.2.2.1, List.length_cons] at this; omega
            case rel =>
              have hS := H2.out.2.2.2.2.1
              exact DRel.of_emit (c := cc) (k := 2 * S2.length + 2) H2.out.1 (by rw [hS]; exact dots_emit S2 (by decide) HDS.out) (H2.out.2.1.setState 4) (by decide) (H2.out.2.2.1.setCell (p := ⟨dr, 1, none⟩) (fun _ => .inr rfl) _) hgs hgd hgt hgb hlt hN (by simp)
          · -- state 2
            by_cases h10 : cc = 10
            · subst h10
              go_wp2
              go_roundg (2 * S2.length + 2)
              case measure => have := H2.out.2.2.2.1; rw [H2.out.2.2.2.2.1, List.length_cons] at this; omega
              case rel =>
                have hS := H2.out.2.2.2.2.1
                exact DRel.of_silent (k := 2 * S2.length + 2) H2.out.1 (by rw [hS]; exact dots_silent S2 (by decide) (by rfl)) (H2.out.2.1.setState 5) (by decide) (H2.out.2.2.1.setCell (p := ⟨dr, 1, none⟩) (fun _ => .inr rfl) _) hgs hgd hgl (by simp)
            have n10 : ((cc.toNat : Int) == 10) = false := by rw [beq_eq_false_iff_ne]; exact fun e => h10 ((byte_eq_iff cc 10).1 e)
            have HH := Lib.hid h10
            clear h10
            go_wp2_with (go_at_call 83; refine (unreadByte_any H2.out.2.2.2.2.2.1).mono ?_; rintro e w3 ⟨rfl, hR3, hC3⟩; have H3 := Lib.hid (And.intro hR3 hC3); clear hR3 hC3; refine Hid.out ?_)
            refine Lib.hid ?_
            obtain ⟨hR3, hC3⟩ := H3.out
            have hdt3 := H2.out.2.1.step hC3 ⟨cc :: B2, U2, r2, z2, _, _, hR3, congrArg (cc :: ·) H2.out.2.2.2.2.2.2⟩
            have glt := World.block_lt_of_cell? _ _ gcell
            have q1 : w3.cell? ⟨g, o + X.length, none⟩ = some (.int .u8 (L'.getD (o + X.length) 0).toNat) := (World.cell?_of_block (w := w2) (a := ⟨g, o + X.length, none⟩) (hC3.block g glt hgs)).trans gcell
            have q2 : w3.frozen? ⟨g, o + X.length, none⟩ = false := (World.frozen?_of_block (w := w2) (a := ⟨g, o + X.length, none⟩) (hC3.block g glt hgs)).trans gfree
            have q3 : ∀ v, (w3.setCell ⟨dr, 1, none⟩ v).cell? ⟨g, o + X.length, none⟩ = some (.int .u8 (L'.getD (o + X.length) 0).toNat) := fun v => by rw [World.cell?_setCell_other _ _ _ _ (by intro e; injection e with e _; exact hgd e.symm)]; exact q1
            have q4 : ∀ v, (w3.setCell ⟨dr, 1, none⟩ v).frozen? ⟨g, o + X.length, none⟩ = false := fun v => by rw [World.frozen?_setCell]; exact q2
            have k1 : w3.cell? ⟨dr, 1, none⟩ = some (.int .i64 2) := hdt3.blk.cell 1
            have kf := hdt3.blk.free 1
            have H4 := Lib.hid (And.intro hdt3 hC3)
            clear hR3 hC3 hdt3 glt q1 q2 gcell gfree gcell2 gfree2 e1 fe1
            go_wp2
            go_roundg (2 * S2.length + 3)
            case measure => have := H2.out.2.2.2.1; rw [H2.out.2.2.2.2.1, List.length_cons] at this; simp at this; omega
            case rel =>
              have hS := H2.out.2.2.2.2.1
              exact DRel.of_emit (c := 13) (k := 2 * S2.length + 3) H2.out.1 (by rw [hS]; exact dots_back S2 (.inl rfl) HH.out) (H4.out.1.setState 4) (by decide) ((H2.out.2.2.1.trans (H4.out.2.sub (fun _ _ h => .inl h))).setCell (p := ⟨dr, 1, none⟩) (fun _ => .inr rfl) _) hgs hgd hgt hgb hlt hN (by simp; omega)
          · -- state 3
            by_cases h10 : cc = 10
            · subst h10
              go_wp2
              go_roundg (2 * S2.length + 2)
              case measure => have := H2.out.2.2.2.1; rw [H2.out.2.2.2.2.1, List.length_cons] at this; omega
              case rel =>
                have hS := H2.out.2.2.2.2.1
                exact DRel.of_emit (c := 10) (k := 2 * S2.length + 2) H2.out.1 (by rw [hS]; exact dots_emit S2 (by decide) (by rfl)) (H2.out.2.1.setState 0) (by decide) (H2.out.2.2.1.setCell (p := ⟨dr, 1, none⟩) (fun _ => .inr rfl) _) hgs hgd hgt hgb hlt hN (by simp)
            have n10 : ((cc.toNat : Int) == 10) = false := by rw [beq_eq_false_iff_ne]; exact fun e => h10 ((byte_eq_iff cc 10).1 e)
            have HH := Lib.hid h10
            clear h10
            go_wp2_with (go_at_call 83; refine (unreadByte_any H2.out.2.2.2.2.2.1).mono ?_; rintro e w3 ⟨rfl, hR3, hC3⟩; have H3 := Lib.hid (And.intro hR3 hC3); clear hR3 hC3; refine Hid.out ?_)
            refine Lib.hid ?_
            obtain ⟨hR3, hC3⟩ := H3.out
            have hdt3 := H2.out.2.1.step hC3 ⟨cc :: B2, U2, r2, z2, _, _, hR3, congrArg (cc :: ·) H2.out.2.2.2.2.2.2⟩
            have glt := World.block_lt_of_cell? _ _ gcell
            have q1 : w3.cell? ⟨g, o + X.length, none⟩ = some (.int .u8 (L'.getD (o + X.length) 0).toNat) := (World.cell?_of_block (w := w2) (a := ⟨g, o + X.length, none⟩) (hC3.block g glt hgs)).trans gcell
            have q2 : w3.frozen? ⟨g, o + X.length, none⟩ = false := (World.frozen?_of_block (w := w2) (a := ⟨g, o + X.length, none⟩) (hC3.block g glt hgs)).trans gfree
            have q3 : ∀ v, (w3.setCell ⟨dr, 1, none⟩ v).cell? ⟨g, o + X.length, none⟩ = some (.int .u8 (L'.getD (o + X.length) 0).toNat) := fun v => by rw [World.cell?_setCell_other _ _ _ _ (by intro e; injection e with e _; exact hgd e.symm)]; exact q1
            have q4 : ∀ v, (w3.setCell ⟨dr, 1, none⟩ v).frozen? ⟨g, o + X.length, none⟩ = false := fun v => by rw [World.frozen?_setCell]; exact q2
            have k1 : w3.cell? ⟨dr, 1, none⟩ = some (.int .i64 3) := hdt3.blk.cell 1
            have kf := hdt3.blk.free 1
            have H4 := Lib.hid (And.intro hdt3 hC3)
            clear hR3 hC3 hdt3 glt q1 q2 gcell gfree gcell2 gfree2 e1 fe1
            go_wp2
            go_roundg (2 * S2.length + 3)
            case measure => have := H2.out.2.2.2.1; rw [H2.out.2.2.2.2.1, List.length_cons] at this; simp at this; omega
            case rel =>
              have hS := H2.out.2.2.2.2.1
              exact DRel.of_emit (c := 13) (k := 2 * S2.length + 3) H2.out.1 (by rw [hS]; exact dots_back S2 (.inr rfl) HH.out) (H4.out.1.setState 4) (by decide) ((H2.out.2.2.1.trans (H4.out.2.sub (fun _ _ h => .inl h))).setCell (p := ⟨dr, 1, none⟩) (fun _ => .inr rfl) _) hgs hgd hgt hgb hlt hN (by simp; omega)
          · -- state 4
            by_cases h13 : cc = 13
            · subst h13
              go_wp2
              go_roundg (2 * S2.length + 2)
              case measure => have := H2.out.2.2.2.1; rw [H2.out.2.2.2.2.1, List.length_cons] at this; omega
              case rel =>
                have hS := H2.out.2.2.2.2.1
                exact DRel.of_silent (k := 2 * S2.length + 2) H2.out.1 (by rw [hS]; exact dots_silent S2 (by decide) (by rfl)) (H2.out.2.1.setState 3) (by decide) (H2.out.2.2.1.setCell (p := ⟨dr, 1, none⟩) (fun _ => .inr rfl) _) hgs hgd hgl (by simp)
            have n13 : ((cc.toNat : Int) == 13) = false := by rw [beq_eq_false_iff_ne]; exact fun e => h13 ((byte_eq_iff cc 13).1 e)
            by_cases h10 : cc = 10
            · subst h10
              go_wp2
              go_roundg (2 * S2.length + 2)
              case measure => have := H2.out.2.2.2.1; rw [H2.out.2.2.2.2.1, List.length_cons] at this; omega
              case rel =>
                have hS := H2.out.2.2.2.2.1
                exact DRel.of_emit (c := 10) (k := 2 * S2.length + 2) H2.out.1 (by rw [hS]; exact dots_emit S2 (by decide) (by rfl)) (H2.out.2.1.setState 0) (by decide) (H2.out.2.2.1.setCell (p := ⟨dr, 1, none⟩) (fun _ => .inr rfl) _) hgs hgd hgt hgb hlt hN (by simp)
            have n10 : ((cc.toNat : Int) == 10) = false := by rw [beq_eq_false_iff_ne]; exact fun e => h10 ((byte_eq_iff cc 10).1 e)
            have hds : dstep 4 cc = ([cc], 4) := by simp [dstep, d4, h13, h10]
            have HDS := Lib.hid hds
            clear hds h13 h10
            go_wp2
            go_roundg (2 * S2.length + 2)
            case measure => have := H2.out.2.2.2.1; rw [H2.out.2.2.2.2.1, List.length_cons] at this; omega
            case rel =>
              have hS := H2.out.2.2.2.2.1
              exact DRel.of_emit (c := cc) (k := 2 * S2.length + 2) H2.out.1 (by rw [hS]; exact dots_emit S2 (by decide) HDS.out) H2.out.2.1 (by decide) H2.out.2.2.1 hgs hgd hgt hgb hlt hN (by simp)
        · refine Lib.hid ?_
          obtain ⟨hgot, hdt, hms⟩ := H1.out
          have hdt2 := hdt.step hC hR
          have e0 : w2.cell? ⟨dr, 0, none⟩ = some (.pointer (some ⟨t, 0, none⟩)) := hdt2.blk.cell 0
          have e1 : w2.cell? ⟨t, 1, none⟩ = some (.pointer (some ⟨dr, 0, none⟩)) := hdt2.tp.c1
          have fe1 := hdt2.tp.f 1
          have hs2 := hdt2.rs.choose_spec.choose_spec.choose_spec.choose_spec.choose_spec.choose_spec.1.s.s
          have gE := (hs2.sen _ hg).cell
          have gU := (hs2.sen _ hk).cell
          have h0 := fun w => es_same E 1 w
          have hgot2 : DGot K base E gs t p bb dr buf st S g N o n L w X st1 [] w2 := by
            have := hgot.silent (w3 := w2) (st2 := st1) (S2 := S1) rfl hgot.st5 (hC.sub (fun _ _ h => .inl h)) hgs hgd hgl
            rwa [hS] at this
          have H2 := Lib.hid (And.intro hgot2 hdt2)
          clear hgot hdt hms hdt2 hs2 hgot2 hR hC b0 b1 t1 ft1 hE
          simp only [Er.val]
          go_wp2
          go_ret2
          obtain ⟨hgot2, hdt2⟩ := H2.out
          exact ⟨X, st1, [], .sent 2, rfl, hgot2.shut hgt, .inr (.inr ⟨rfl, rfl, h5, hdt2.shut⟩)⟩
      · have hlt2 : ¬ (X.length : Int) < (n : Int) := by omega
        have hX : X.length = n := hlt
        have HX := Lib.hid hX
        clear hlt hX
        go_wp2
        go_ret2
        obtain ⟨hgot, hdt, hms⟩ := H1.out
        exact ⟨X, st1, S1, .nil, rfl, hgot, .inl ⟨rfl, HX.out, h5, hdt⟩⟩
end Go.Proofs.YteiiocibldpioaaDoor
