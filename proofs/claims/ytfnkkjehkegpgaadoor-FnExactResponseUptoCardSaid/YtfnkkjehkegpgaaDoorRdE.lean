/- The walk of ReadSlice at LF, over any reader beneath. -/
import Derived.Test.YtfnkkjehkegpgaaDoorRdD
import Derived.Deep.LoopGhost
import Derived.Deep.CutBlock
namespace Go.Proofs.YtfnkkjehkegpgaaDoor
open Go.RowKit

theorem RB.drewN {w : World} {A : Option Addr} {l : List UInt8} (h : RB w A l) (k : Nat) : RB (w.drewN k) A l := h
theorem indexByte_at {w : World} {A : Option Addr} {l : List UInt8} {n c : Nat} (hA : ∃ g o, A = some ⟨g, o, none⟩) (hn : n = l.length) (hr : RB w A l) (b : Int) (hb : b = 10) :
    Calls Tryd.prog 58 #[.slice A n c, .int .u8 b] w fun e w' => e = .returned (.int .i64 (Lib.indexByte l 10)) ∧ w' = w := by
  obtain ⟨g, o, rfl⟩ := hA
  subst hn; subst hb
  exact indexByte_any hr 10

theorem Rd.slice {K : Und} {base p bb : Nat} {E : Nat → Addr} {gs : List Nat} {w : World} {B U : List UInt8} {r : Nat} {z : Bool} {lb lr : Int} (h : Rd K base E gs p bb w B U r z lb lr) :
    ∃ o, (if 4096 = r then some (Addr.mk bb 0 none) else some (Addr.mk bb r none)) = some ⟨bb, o, none⟩ ∧ RB w (some ⟨bb, o, none⟩) B ∧ (B ≠ [] → o = r) := by
  have hle := h.le
  by_cases hr : 4096 = r
  · have hB : B = [] := List.length_eq_zero_iff.1 (by omega)
    exact ⟨0, by rw [if_pos hr], by rw [hB]; exact RB.nil _ _, fun hne => absurd hB hne⟩
  · obtain ⟨L, hL, hLB⟩ := h.row
    exact ⟨r, by rw [if_neg hr], hL.rb r B hLB hle, fun _ => rfl⟩
/-- What ReadSlice at LF answers of a stream: the line with its LF; all, and the end; or a buffer full. -/
inductive SliceSays (S : List UInt8) : List UInt8 → Er → List UInt8 → Prop
  | found (l rest : List UInt8) : S = l ++ 10 :: rest → 10 ∉ l → l.length < 4096 → SliceSays S (l ++ [10]) .nil rest
  | ended : 10 ∉ S → S.length < 4096 → SliceSays S S (.sent 0) []
  | full : 4096 ≤ S.length → 10 ∉ S.take 4096 → SliceSays S (S.take 4096) (.sent 4) (S.drop 4096)
/-- What ReadSlice leaves. -/
def SliceEnd (K : Und) (base : Nat) (E : Nat → Addr) (gs : List Nat) (p bb : Nat) (S : List UInt8) (w : World) (e : Ending) (w' : World) : Prop :=
  ∃ (o c : Nat) (line : List UInt8) (er : Er) (B U : List UInt8) (r : Nat) (z : Bool) (lb lr : Int), e = .returned (.tuple #[.slice (some ⟨bb, o, none⟩) line.length c, er.val E]) ∧ SliceSays S line er (B ++ U) ∧
    (line ≠ [] → o + line.length = r) ∧ line.length ≤ c ∧ c ≤ 4096 ∧ RB w' (some ⟨bb, o, none⟩) line ∧ Rd K base E gs p bb w' B U r z lb lr ∧ Chg (Rd.S K p bb) w w'

/-- .. and behind its loop, ahead of what it notes of the last byte. -/
def SliceMid (K : Und) (base : Nat) (E : Nat → Addr) (gs : List Nat) (p bb : Nat) (S : List UInt8) (w : World) (u4 u5 : Value) (w' : World) : Prop :=
  ∃ (o c : Nat) (line : List UInt8) (er : Er) (B U : List UInt8) (r : Nat) (z : Bool) (lb lr : Int), u4 = .slice (some ⟨bb, o, none⟩) line.length c ∧ u5 = er.val E ∧ SliceSays S line er (B ++ U) ∧
    (line ≠ [] → o + line.length = r) ∧ line.length ≤ c ∧ c ≤ 4096 ∧ RB w' (some ⟨bb, o, none⟩) line ∧ Rd K base E gs p bb w' B U r z lb lr ∧ Chg (Rd.S K p bb) w w'

set_option maxRecDepth 200000 in
set_option maxHeartbeats 8000000 in
theorem readSlice_any {K : Und} (hK : FillOK K) {base p bb : Nat} {E : Nat → Addr} {gs : List Nat} {w : World} {B U : List UInt8} {r : Nat} {z : Bool} {lb lr : Int} (h : Rd K base E gs p bb w B U r z lb lr) (hg : 0 ∈ gs) (hf : 4 ∈ gs) :
    Calls Tryd.prog 50 #[.pointer (some ⟨p, 0, none⟩), .int .u8 10] w (SliceEnd K base E gs p bb (B ++ U) w) := by
  have H := Lib.hid h
  clear h
  generalize hS : B ++ U = S
  have HS := Lib.hid hS
  clear hS
  go_enter Tryd.func50, Tryd.ntmps50
  go_upto_block 0 with (fail)
  go_cut [4, 5] (fun u4 u5 wx => SliceMid K base E gs p bb S w u4 u5 wx)
  case rest =>
    obtain ⟨o, c, line, er, B1, U1, r1, z1, lb1, lr1, rfl, rfl, hsay, hor, hlc, hc4, hrb, h, hC⟩ := hcut
    clear H HS
    have d5 := h.c.c5
    have d6 := h.c.c6
    have f5 := h.c.f 5
    have f6 := h.c.f 6
    rcases List.eq_nil_or_concat line with rfl | ⟨t, b, rfl⟩
    · have HH := Lib.hid (And.intro hsay (And.intro hor (And.intro hrb (And.intro h hC))))
      clear hsay hor hrb h hC
      go_wp2
      go_ret2
      obtain ⟨hsay, hor, hrb, h, hC⟩ := HH.out
      exact ⟨o, c, [], er, B1, U1, r1, z1, lb1, lr1, rfl, hsay, hor, hlc, hc4, hrb, h, hC⟩
    · have hlen : (t ++ [b]).length = t.length + 1 := by simp
      rw [List.concat_eq_append] at *
      obtain ⟨g', o', he, hx⟩ := hrb (by simp)
      injection he with he
      injection he with e1 e2
      subst e1; subst e2
      have hlast : wc.cell? ⟨bb, o + t.length, none⟩ = some (.int .u8 b.toNat) := hx t.length b (by simp)
      have hbn := byte_le b
      have ht : (t.length : Int) < (t.length : Int) + 1 := by omega
      have HH := Lib.hid (And.intro hsay (And.intro hor (And.intro hrb (And.intro h (And.intro hC (And.intro hx hlc))))))
      rw [hlen] at hlc ⊢
      clear hsay hor hrb h hC hx
      go_wp2
      go_ret2
      obtain ⟨hsay, hor, hrb, h, hC, hx, hlc'⟩ := HH.out
      have N : ∀ k, k ≠ p → ((wc.setCell ⟨p, 5, none⟩ (.int .i64 b.toNat)).setCell ⟨p, 6, none⟩ (.int .i64 (-1))).heap[k]? = wc.heap[k]? := fun k hk =>
        (Below.heap_setCell _ _ _ _ hk).trans (Below.heap_setCell _ _ _ _ hk)
      have C2 : Chg (Rd.S K p bb) wc ((wc.setCell ⟨p, 5, none⟩ (.int .i64 b.toNat)).setCell ⟨p, 6, none⟩ (.int .i64 (-1))) :=
        (((Chg.refl (Rd.S K p bb) wc).setCell (p := ⟨p, 5, none⟩) (fun _ => .inl rfl) _).setCell (p := ⟨p, 6, none⟩) (fun _ => .inl rfl) _)
      obtain ⟨L, hL, hLB⟩ := h.row
      refine ⟨o, c, t ++ [b], er, B1, U1, r1, z1, b.toNat, -1, ?_, hsay, hor, hlc', hc4, hrb.same (fun g'' o'' he _ => N g'' (fun e => by injection he with he; injection he with e1 _; exact h.lay.nb (e ▸ e1.symm))), ?_, hC.trans C2⟩
      · rw [hlen]; rfl
      · exact h.new C2 ((h.c.set5 b.toNat).set6 (-1)) ⟨L, hL.same (N bb h.lay.nb.symm), hLB⟩ h.le (K.same h.u fun k hk => N k (fun e => h.lay.np (e ▸ hk))) h.end_
  case first =>
    go_wp2_with (fail)
    go_loopg [4, 5, 6, 7] (U.length + 2) (fun k u4 u5 u6 u7 wr => u5 = .nilIface ∧ ∃ (B' U' : List UInt8) (r' : Nat) (z' : Bool) (lb' lr' : Int) (s : Nat), Rd K base E gs p bb wr B' U' r' z' lb' lr' ∧ Chg (Rd.S K p bb) w wr ∧ B' ++ U' = S ∧ u6 = .int .i64 s ∧ s ≤ B'.length ∧ 10 ∉ B'.take s ∧ U'.length + (if z' then 1 else 2) ≤ k)
    case atStart => exact ⟨rfl, B, U, r, z, lb, lr, 0, H.out, Chg.refl _ _, HS.out, rfl, Nat.zero_le _, by simp, by split <;> omega⟩
    case round =>
      obtain ⟨rfl, B1, U1, r1, z1, lb1, lr1, s, h, hC, hBU, rfl, hs, hno, hk⟩ := hrel
      clear H HS
      obtain ⟨a, ha⟩ : ∃ a : Nat, a = r1 + s := ⟨_, rfl⟩
      obtain ⟨n, hn⟩ : ∃ n : Nat, n = r1 + B1.length := ⟨_, rfl⟩
      have c0 := h.c.c0
      have c2 := h.c.c2
      have c3 := h.c.c3
      have hle := h.le
      rw [← hn] at c3
      have hsum : IntKind.i64.wrap ((r1 : Int) + (s : Int)) = (a : Int) := by rw [IntKind.wrap_i64]; omega
      have h1 : (a : Int) ≤ (n : Int) := by omega
      have h2 : (n : Int) ≤ 4096 := by omega
      have h3 : a ≤ n := by omega
      have h4 : n ≤ 4096 := by omega
      have hnl : n - a = (B1.drop s).length := by rw [List.length_drop]; omega
      have hrb : RB wr (if 4096 = a then some ⟨bb, 0, none⟩ else some ⟨bb, a, none⟩) (B1.drop s) := by
        split
        · have : B1.drop s = [] := List.length_eq_zero_iff.1 (by omega)
          rw [this]; exact RB.nil _ _
        · obtain ⟨L, hL, hLB⟩ := h.row
          refine hL.rb a _ ?_ (by rw [← hnl]; omega)
          rw [ha, ← List.drop_drop]
          conv => rhs; rw [← hLB]
          rw [List.drop_take, List.length_drop]
      have hA : ∃ g o, (if 4096 = a then some (Addr.mk bb 0 none) else some (Addr.mk bb a none)) = some ⟨g, o, none⟩ := by
        split
        · exact ⟨_, _, rfl⟩
        · exact ⟨_, _, rfl⟩
      have HR := Lib.hid (And.intro h (And.intro hC (And.intro hBU (And.intro hs (And.intro hno (And.intro hk (And.intro ha (And.intro hn hle))))))))
      have HB := Lib.hid (And.intro hrb (And.intro hA hnl))
      clear h hC hBU hs hno hk ha hn hle hrb hA hnl
      go_wp2_with (fail)
      go_quiet ((go_at_call 58; exact Calls.quiet_of_same (indexByte_at HB.out.2.1 HB.out.2.2 (HB.out.1.drewN _) _ rfl)))
      generalize (if 4096 = a then some (Addr.mk bb 0 none) else some (Addr.mk bb a none)) = A0
      have hO : Only wr (wr.drewN nq) := (Only.refl wr).drewN nq
      have HO := Lib.hid hO
      by_cases hm : 10 ∈ B1.drop s
      · obtain ⟨x, y, hxy, hx⟩ := List.eq_append_cons_of_mem hm
        rw [hxy, indexByte_app hx]
        have hO := HO.out
        generalize wr.drewN nq = w2 at HO hO
        have h := HR.out.1.only hO
        have d0 := h.c.c0
        have d2 := h.c.c2
        have f2 := h.c.f 2
        obtain ⟨t, ht⟩ : ∃ t : Nat, t = r1 + (x.length + s) := ⟨_, rfl⟩
        have hlen : B1.length = s + x.length + 1 + y.length := by
          have h1 := HR.out.2.2.2.1
          have h2 : (B1.drop s).length = x.length + (y.length + 1) := by rw [hxy]; simp
          rw [List.length_drop] at h2
          omega
        have ht1 : t + 1 ≤ n := by have := HR.out.2.2.2.2.2.2.2.1; omega
        have hxl : (x.length : Int) ≤ 4096 := by omega
        have hsl : (s : Int) ≤ 4096 := by omega
        have hw1 : IntKind.i64.wrap ((r1 : Int) + ((x.length : Int) + (s : Int))) = (t : Int) := by rw [IntKind.wrap_i64]; omega
        have hw2 : IntKind.i64.wrap ((t : Int) + 1) = ((t + 1 : Nat) : Int) := by rw [IntKind.wrap_i64]; omega
        have hi1 : (r1 : Int) ≤ ((t + 1 : Nat) : Int) := by omega
        have hi2 : ((t + 1 : Nat) : Int) ≤ 4096 := by omega
        have hi3 : r1 ≤ t + 1 := by omega
        have hi4 : t + 1 ≤ 4096 := by omega
        obtain ⟨o1, ho1, hrb1, hor1⟩ := HR.out.1.slice
        have HS1 := Lib.hid (And.intro hrb1 (And.intro hor1 (And.intro hxy (And.intro hx (And.intro ht hlen)))))
        have HO2 := Lib.hid h
        clear hrb1 hor1 hxy hx ht hlen h hO c0 c2 c3 hsum h1 h3
        go_wp2
        go_quiet (fail)
        go_wp2
        go_meet
        case rel =>
          obtain ⟨hrb1, hor1, hxy, hx, ht, hlen⟩ := HS1.out
          obtain ⟨h, hC, hBU, hs, hno, hk, ha, hn, hle⟩ := HR.out
          have hO3 : Only wr (w2.drewN nq) := HO.out.drewN nq
          have h3 := HO2.out.only ((Only.refl w2).drewN nq)
          have hB : B1 = (B1.take s ++ x ++ [10]) ++ y := by
            have h0 : B1.take s ++ B1.drop s = B1 := List.take_append_drop s B1
            rw [hxy] at h0
            exact h0.symm.trans (by simp)
          have hl : (B1.take s ++ x ++ [10]).length = t + 1 - r1 := by simp; omega
          have hne : B1 ≠ [] := fun e => by rw [e, List.length_nil] at hlen; omega
          have N : ∀ k, k ≠ p → ((w2.drewN nq).setCell ⟨p, 2, none⟩ (.int .i64 ((r1 : Int) + ((x.length : Int) + (s : Int) + 1)))).heap[k]? = (w2.drewN nq).heap[k]? := fun k hk => Below.heap_setCell _ _ _ _ hk
          have C3 : Chg (Rd.S K p bb) (w2.drewN nq) ((w2.drewN nq).setCell ⟨p, 2, none⟩ (.int .i64 ((r1 : Int) + ((x.length : Int) + (s : Int) + 1)))) :=
            (Chg.refl (Rd.S K p bb) _).setCell (p := ⟨p, 2, none⟩) (fun _ => .inl rfl) _
          obtain ⟨L, hL, hLB⟩ := h3.row
          have hP := h3.c.set2 ((r1 : Int) + ((x.length : Int) + (s : Int) + 1))
          refine ⟨o1, 4096 - r1, B1.take s ++ x ++ [10], .nil, y, U1, t + 1, z1, lb1, lr1, by rw [hl], rfl, ?_, fun _ => ?_, by omega, by omega, ?_, ?_, hC.trans ((hO3.chg _).trans C3)⟩
          · refine .found (B1.take s ++ x) (y ++ U1) ?_ ?_ (by simp; omega)
            · rw [← hBU]
              exact (congrArg (· ++ U1) hB).trans (by simp)
            · rw [List.mem_append]; exact fun e => e.elim hno hx
          · rw [hl, hor1 hne]; omega
          · have hrb : RB wr (some ⟨bb, o1, none⟩) (B1.take s ++ x ++ [10]) := by
              have hrb2 : RB wr (some ⟨bb, o1, none⟩) ((B1.take s ++ x ++ [10]) ++ y) := hB ▸ hrb1
              exact hrb2.left
            exact hrb.same (fun g' o' he _ => (N g' (fun e => by injection he with he; injection he with e1 _; exact h.lay.nb (e ▸ e1.symm))).trans (hO3.at_ g'))
          · refine h3.new C3 ?_ ⟨L, hL.same (N bb h.lay.nb.symm), ?_⟩ (by omega) (K.same h3.u fun k hk => N k (fun e => h.lay.np (e ▸ hk))) (fun e => ⟨(h.end_ e).1, by have := (h.end_ e).2; omega⟩)
            · rw [show ((t + 1 : Nat) : Int) = (r1 : Int) + ((x.length : Int) + (s : Int) + 1) by omega, show ((t + 1 + y.length : Nat) : Int) = ((r1 + B1.length : Nat) : Int) by omega]
              exact hP
            · have h5 : t + 1 = r1 + (B1.take s ++ x ++ [10]).length := by omega
              rw [h5, ← List.drop_drop]
              have h6 : ((L.drop r1).take B1.length).drop (B1.take s ++ x ++ [10]).length = y := by
                rw [hLB]
                exact (congrArg (fun l => l.drop (B1.take s ++ x ++ [10]).length) hB).trans List.drop_left
              rw [List.drop_take] at h6
              rw [show y.length = B1.length - (B1.take s ++ x ++ [10]).length by omega]
              exact h6
      · rw [indexByte_none.2 hm]
        have hO := HO.out
        generalize wr.drewN nq = w2 at HO hO
        have h := HR.out.1.only hO
        cases z1
        · have d4 : w2.cell? ⟨p, 4, none⟩ = some .nilIface := h.c.c4
          have d0 := h.c.c0
          have hbf := fun k => buffered_any (h.only ((Only.refl w2).drewN k))
          have hF := (h.s.s.sen _ hf).cell
          have HBF := Lib.hid hbf
          clear hbf h hO c0 c2 c3 hsum h1 h3
          by_cases hfull : 4096 ≤ B1.length
          · go_wp2
            go_quiet ((go_at_call 41; exact Calls.quiet_of (HBF.out _)))
            have hO3 : Only wr (w2.drewN nq) := HO.out.drewN nq
            have h3 := HR.out.1.only hO3
            generalize w2.drewN nq = w3 at hO3 h3 ⊢
            clear d0 d4 hF HBF HO w2
            have d0 := h3.c.c0
            have d2 := h3.c.c2
            have f2 := h3.c.f 2
            have d3 := h3.c.c3
            have hF := (h3.s.s.sen _ hf).cell
            have hFl : 4 ≠ p := by have := (h3.s.lo _ hf).1; have := h3.lay.bp; omega
            have hP := h3.c.set2 (n : Int)
            rw [← HR.out.2.2.2.2.2.2.2.1] at d3 hP
            have H3 := Lib.hid (And.intro h3 hO3)
            have H5 := Lib.hid hP
            clear h3 hO3 hP
            go_wp2
            go_meet
            case rel =>
              obtain ⟨h3, hO3⟩ := H3.out
              obtain ⟨h, hC, hBU, hs, hno, hk, ha, hn, hle⟩ := HR.out
              have hl : B1.length = 4096 := by omega
              have hn4 : n = 4096 := by omega
              have h10 : 10 ∉ B1 := fun hm' => by
                rw [← List.take_append_drop s B1, List.mem_append] at hm'
                exact hm'.elim hno hm
              have N : ∀ k, k ≠ p → (w3.setCell ⟨p, 2, none⟩ (.int .i64 n)).heap[k]? = w3.heap[k]? := fun k hk => Below.heap_setCell _ _ _ _ hk
              have C3 : Chg (Rd.S K p bb) w3 (w3.setCell ⟨p, 2, none⟩ (.int .i64 n)) := (Chg.refl (Rd.S K p bb) w3).setCell (p := ⟨p, 2, none⟩) (fun _ => .inl rfl) _
              obtain ⟨L, hL, hLB⟩ := h3.row
              have hr0 : r1 = 0 := by omega
              have hST : S.take 4096 = B1 := by rw [← hBU, List.take_append_of_le_length (by omega), ← hl, List.take_length]
              have hSD : S.drop 4096 = U1 := by rw [← hBU, ← hl, List.drop_left]
              refine ⟨0, 4096, B1, .sent 4, [], U1, n, false, lb1, lr1, by rw [hl], rfl, ?_, fun _ => by omega, by omega, Nat.le_refl _, ?_, ?_, hC.trans ((hO3.chg _).trans C3)⟩
              · have hh := SliceSays.full (S := S) (by rw [← hBU, List.length_append]; omega) (by rw [hST]; exact h10)
                rw [hST, hSD] at hh
                exact hh
              · have hrb : RB w3 (some ⟨bb, 0, none⟩) B1 := hL.rb 0 B1 (by rw [← hr0]; exact hLB) (by omega)
                exact hrb.same (fun g' o' he _ => N g' (fun e => by injection he with he; injection he with e1 _; exact h.lay.nb (e ▸ e1.symm)))
              · exact h3.new C3 (by rw [List.length_nil, Nat.add_zero]; exact H5.out) ⟨L, hL.same (N bb h.lay.nb.symm), by simp⟩ (by simpa using h4) (K.same h3.u fun k hk => N k (fun e => h.lay.np (e ▸ hk))) (fun e => by cases e)
          · have hfull' : (B1.length : Int) < 4096 := by omega
            go_wp2
            go_quiet ((go_at_call 41; exact Calls.quiet_of (HBF.out _)))
            have hO3 : Only wr (w2.drewN nq) := HO.out.drewN nq
            have h3 := HR.out.1.only hO3
            generalize w2.drewN nq = w3 at hO3 h3 ⊢
            clear d0 d4 hF HBF HO w2
            have d2 := h3.c.c2
            have d3 := h3.c.c3
            rw [← HR.out.2.2.2.2.2.2.2.1] at d3
            have hsub : IntKind.i64.wrap ((n : Int) - (r1 : Int)) = (B1.length : Int) := by rw [IntKind.wrap_i64]; have := HR.out.2.2.2.2.2.2.2.1; omega
            have H3 := Lib.hid (And.intro h3 hO3)
            clear h3 hO3
            go_wp2
            go_quiet (fail)
            have hO4 : Only w3 (w3.drewN nq) := (Only.refl w3).drewN nq
            have h4' := H3.out.1.only hO4
            generalize w3.drewN nq = w4 at hO4 h4' ⊢
            have H4 := Lib.hid (And.intro h4' hO4)
            clear h4' hO4 d2 d3
            go_wp2_with (go_at_call 59; refine (hK base E gs p bb _ B1 U1 r1 lb1 lr1 H4.out.1 (by omega) hg).mono ?_; rintro e w5 ⟨rfl, hX, hC5⟩)
            obtain ⟨X, U', hXU, h5, hX0⟩ := hX
            obtain ⟨h, hC, hBU, hs, hno, hk, ha, hn, hle⟩ := HR.out
            have h10 : 10 ∉ B1 := fun hm' => by
              rw [← List.take_append_drop s B1, List.mem_append] at hm'
              exact hm'.elim hno hm
            simp only [Bool.false_eq_true, if_false] at hk
            go_roundg (U'.length + (if X.isEmpty = true then 1 else 2))
            case measure =>
              subst hXU
              rw [List.length_append] at hk
              cases X with
              | nil => simp only [List.isEmpty_nil, if_true, List.length_nil] at hk ⊢; omega
              | cons x t => simp only [List.isEmpty_cons, Bool.false_eq_true, if_false, List.length_cons] at hk ⊢; omega
            case rel =>
              exact ⟨rfl, B1 ++ X, U', 0, X.isEmpty, lb1, lr1, B1.length, h5, hC.trans ((H3.out.2.chg _).trans ((H4.out.2.chg _).trans hC5)), by rw [List.append_assoc, ← hXU]; exact hBU, rfl, by simp, by simpa using h10, Nat.le_refl _⟩
        · have d4 : w2.cell? ⟨p, 4, none⟩ = some (.iface 118 (.pointer (some (E 0)))) := h.c.c4
          have d0 := h.c.c0
          have d2 := h.c.c2
          have d3 := h.c.c3
          rw [← HR.out.2.2.2.2.2.2.2.1] at d3
          have hr1 : (r1 : Int) ≤ (n : Int) := by have := HR.out.2.2.2.2.2.2.2.1; omega
          have hr2 : r1 ≤ n := by omega
          have hnl : n - r1 = B1.length := by have := HR.out.2.2.2.2.2.2.2.1; omega
          clear h hO c0 c2 c3 hsum h1 h3
          have HN := Lib.hid hnl
          clear hnl
          go_wp2
          obtain ⟨o1, ho1, hrb1, hor1⟩ := HR.out.1.slice
          have HS1 := Lib.hid (And.intro hrb1 hor1)
          clear hrb1 hor1
          go_quiet (fail)
          have hO3 : Only wr (w2.drewN nq) := HO.out.drewN nq
          have h3 := HR.out.1.only hO3
          generalize w2.drewN nq = w3 at hO3 h3 ⊢
          clear d0 d2 d3 d4 HO w2
          have d2 := h3.c.c2
          have f2 := h3.c.f 2
          have d3 := h3.c.c3
          have P5 := h3.c.set2 (n : Int)
          rw [← HR.out.2.2.2.2.2.2.2.1] at d3
          have H3 := Lib.hid (And.intro h3 hO3)
          have H5 := Lib.hid P5
          clear h3 hO3 P5 ho1
          go_wp2_with (go_at_call 42; refine (readErr_any H5.out).mono ?_; rintro e w4 ⟨rfl, rfl⟩)
          go_meet
          case rel =>
            obtain ⟨h3, hO3⟩ := H3.out
            obtain ⟨h, hC, hBU, hs, hno, hk, ha, hn, hle⟩ := HR.out
            have hU : U1 = [] := (h.end_ rfl).1
            have hlt : r1 + B1.length < 4096 := (h.end_ rfl).2
            have hSB : S = B1 := by rw [← hBU, hU, List.append_nil]
            have h10 : 10 ∉ B1 := fun hm' => by
              rw [← List.take_append_drop s B1, List.mem_append] at hm'
              exact hm'.elim hno hm
            have N : ∀ k, k ≠ p → ((w3.setCell ⟨p, 2, none⟩ (.int .i64 n)).setCell ⟨p, 4, none⟩ .nilIface).heap[k]? = w3.heap[k]? := fun k hk =>
              (Below.heap_setCell _ _ _ _ hk).trans (Below.heap_setCell _ _ _ _ hk)
            have C3 : Chg (Rd.S K p bb) w3 ((w3.setCell ⟨p, 2, none⟩ (.int .i64 n)).setCell ⟨p, 4, none⟩ .nilIface) :=
              (((Chg.refl (Rd.S K p bb) w3).setCell (p := ⟨p, 2, none⟩) (fun _ => .inl rfl) _).setCell (p := ⟨p, 4, none⟩) (fun _ => .inl rfl) _)
            obtain ⟨L, hL, hLB⟩ := h3.row
            have hP := (H5.out.set4 (eofV E false))
            rw [← hn] at hP
            refine ⟨o1, 4096 - r1, B1, .sent 0, [], [], n, false, lb1, lr1, by rw [HN.out], rfl, ?_, fun hne => ?_, by omega, by omega, ?_, ?_, hC.trans ((hO3.chg _).trans C3)⟩
            · subst hSB
              exact .ended h10 (by omega)
            · have := HS1.out.2 hne
              omega
            · exact HS1.out.1.same (fun g' o' he _ => (N g' (fun e => by injection he with he; injection he with e1 _; exact h.lay.nb (e ▸ e1.symm))).trans (hO3.at_ g'))
            · exact h3.new C3 hP ⟨L, hL.same (N bb h.lay.nb.symm), by simp⟩ (by simpa using h4) (by rw [← hU]; exact K.same h3.u fun k hk => N k (fun e => h.lay.np (e ▸ hk))) (fun e => by cases e)
end Go.Proofs.YtfnkkjehkegpgaaDoor
