/- The walk of ReadSlice at LF, over any reader beneath. | The walk of bufio's ReadLine, over any reader beneath. | The textproto.Reader: its block, closeDot without a dot reader, readLineSlice and ReadLine, as one answer that depends on the stream alone. -/
import Derived.Test.YtilhgjcjofobeaaDoorZC2
import Derived.Deep.LoopGhost
import Derived.Deep.CutBlock
import Derived.LaidEql
namespace Go.Proofs.YtilhgjcjofobeaaDoor
open Go.RowKit

theorem RB.drewN {w : World} {A : Option Addr} {l : List UInt8} (h : RB w A l) (k : Nat) : RB (w.drewN k) A l := h
theorem indexByte_at {w : World} {A : Option Addr} {l : List UInt8} {n c : Nat} (hA : ∃ g o, A = some ⟨g, o, none⟩) (hn : n = l.length) (hr : RB w A l) (b : Int) (hb : b = 10) :
    Calls Tryd.prog 74 #[.slice A n c, .int .u8 b] w fun e w' => e = .returned (.int .i64 (Lib.indexByte l 10)) ∧ w' = w := by
  obtain ⟨g, o, rfl⟩ := hA
  subst hn; subst hb
  exact indexByte_any hr 10

theorem Rd.slice {K : Und} {base p bb : Nat} {E : Nat → Addr} {gs : List Nat} {w : World} {B U : List UInt8} {r : Nat} {z : Bool} {lb lr : Int} (h : Rd K base E gs p bb w B U r z lb lr) :
    ∃ o, (if 4096 = r then some (Addr.mk bb 0 none) else some (Addr.mk bb r none)) = some ⟨bb, o, none⟩ ∧ RB w (some ⟨bb, o, none⟩) B ∧ (B ≠ [] → o = r) := by
  have hle := h.le
  by_cases hr : 4096 = r
  · have hB : B = [] := List.length_eq_zero_iff.1 (by omega)
    exact ⟨0, by rw [if_pos hr], by rw [hB]; exact RB.nil _ _, fun hne => absurd hB hne⟩
  · obtain ⟨L, hL, hLB⟩ := h.row
    exact ⟨r, by rw [if_neg hr], hL.rb r B hLB hle, fun _ => rfl⟩
/-- What ReadSlice at LF answers of a stream: the line with its LF; all, and the end; or a buffer full. -/
inductive SliceSays (S : List UInt8) : List UInt8 → Er → List UInt8 → Prop
  | found (l rest : List UInt8) : S = l ++ 10 :: rest → 10 ∉ l → l.length < 4096 → SliceSays S (l ++ [10]) .nil rest
  | ended : 10 ∉ S → S.length < 4096 → SliceSays S S (.sent 0) []
  | full : 4096 ≤ S.length → 10 ∉ S.take 4096 → SliceSays S (S.take 4096) (.sent 5) (S.drop 4096)
/-- What ReadSlice leaves. -/
def SliceEnd (K : Und) (base : Nat) (E : Nat → Addr) (gs : List Nat) (p bb : Nat) (S : List UInt8) (w : World) (e : Ending) (w' : World) : Prop :=
  ∃ (o c : Nat) (line : List UInt8) (er : Er) (B U : List UInt8) (r : Nat) (z : Bool) (lb lr : Int), e = .returned (.tuple #[.slice (some ⟨bb, o, none⟩) line.length c, er.val E]) ∧ SliceSays S line er (B ++ U) ∧
    (line ≠ [] → o + line.length = r) ∧ line.length ≤ c ∧ c ≤ 4096 ∧ RB w' (some ⟨bb, o, none⟩) line ∧ Rd K base E gs p bb w' B U r z lb lr ∧ Chg (Rd.S K p bb) w w'

/-- .. and behind its loop, ahead of what it notes of the last byte. -/
def SliceMid (K : Und) (base : Nat) (E : Nat → Addr) (gs : List Nat) (p bb : Nat) (S : List UInt8) (w : World) (u4 u5 : Value) (w' : World) : Prop :=
  ∃ (o c : Nat) (line : List UInt8) (er : Er) (B U : List UInt8) (r : Nat) (z : Bool) (lb lr : Int), u4 = .slice (some ⟨bb, o, none⟩) line.length c ∧ u5 = er.val E ∧ SliceSays S line er (B ++ U) ∧
    (line ≠ [] → o + line.length = r) ∧ line.length ≤ c ∧ c ≤ 4096 ∧ RB w' (some ⟨bb, o, none⟩) line ∧ Rd K base E gs p bb w' B U r z lb lr ∧ Chg (Rd.S K p bb) w w'

set_option maxRecDepth 200000 in
set_option maxHeartbeats 8000000 in
theorem readSlice_any {K : Und} (hK : FillOK K) {base p bb : Nat} {E : Nat → Addr} {gs : List Nat} {w : World} {B U : List UInt8} {r : Nat} {z : Bool} {lb lr : Int} (h : Rd K base E gs p bb w B U r z lb lr) (hg : 0 ∈ gs) (hf : 5 ∈ gs) :
    Calls Tryd.prog 88 #[.pointer (some ⟨p, 0, none⟩), .int .u8 10] w (SliceEnd K base E gs p bb (B ++ U) w) := by
  have H := Lib.hid h
  clear h
  generalize hS : B ++ U = S
  have HS := Lib.hid hS
  clear hS
  go_enter Tryd.func88, Tryd.ntmps88
  go_upto_block 0 with (fail)
  go_cut [4, 5] (fun u4 u5 wx => SliceMid K base E gs p bb S w u4 u5 wx)
  case rest =>
    obtain ⟨o, c, line, er, B1, U1, r1, z1, lb1, lr1, rfl, rfl, hsay, hor, hlc, hc4, hrb, h, hC⟩ := hcut
    clear H HS
    have d5 := h.c.c5
    have d6 := h.c.c6
    have f5 := h.c.f 5
    have f6 := h.c.f 6
    rcases List.eq_nil_or_concat line with rfl | ⟨t, b, rfl⟩
    · have HH := Lib.hid (And.intro hsay (And.intro hor (And.intro hrb (And.intro h hC))))
      clear hsay hor hrb h hC
      go_wp2
      go_ret2
      obtain ⟨hsay, hor, hrb, h, hC⟩ := HH.out
      exact ⟨o, c, [], er, B1, U1, r1, z1, lb1, lr1, rfl, hsay, hor, hlc, hc4, hrb, h, hC⟩
    · have hlen : (t ++ [b]).length = t.length + 1 := by simp
      rw [List.concat_eq_append] at *
      obtain ⟨g', o', he, hx⟩ := hrb (by simp)
      injection he with he
      injection he with e1 e2
      subst e1; subst e2
      have hlast : wc.cell? ⟨bb, o + t.length, none⟩ = some (.int .u8 b.toNat) := hx t.length b (by simp)
      have hbn := byte_le b
      have ht : (t.length : Int) < (t.length : Int) + 1 := by omega
      have HH := Lib.hid (And.intro hsay (And.intro hor (And.intro hrb (And.intro h (And.intro hC (And.intro hx hlc))))))
      rw [hlen] at hlc ⊢
      clear hsay hor hrb h hC hx
      go_wp2
      go_ret2
      obtain ⟨hsay, hor, hrb, h, hC, hx, hlc'⟩ := HH.out
      have N : ∀ k, k ≠ p → ((wc.setCell ⟨p, 5, none⟩ (.int .i64 b.toNat)).setCell ⟨p, 6, none⟩ (.int .i64 (-1))).heap[k]? = wc.heap[k]? := fun k hk =>
        (Below.heap_setCell _ _ _ _ hk).trans (Below.heap_setCell _ _ _ _ hk)
      have C2 : Chg (Rd.S K p bb) wc ((wc.setCell ⟨p, 5, none⟩ (.int .i64 b.toNat)).setCell ⟨p, 6, none⟩ (.int .i64 (-1))) :=
        (((Chg.refl (Rd.S K p bb) wc).setCell (p := ⟨p, 5, none⟩) (fun _ => .inl rfl) _).setCell (p := ⟨p, 6, none⟩) (fun _ => .inl rfl) _)
      obtain ⟨L, hL, hLB⟩ := h.row
      refine ⟨o, c, t ++ [b], er, B1, U1, r1, z1, b.toNat, -1, ?_, hsay, hor, hlc', hc4, hrb.same (fun g'' o'' he _ => N g'' (fun e => by injection he with he; injection he with e1 _; exact h.lay.nb (e ▸ e1.symm))), ?_, hC.trans C2⟩
      · rw [hlen]; rfl
      · exact h.new C2 ((h.c.set5 b.toNat).set6 (-1)) ⟨L, hL.same (N bb h.lay.nb.symm), hLB⟩ h.le (K.same h.u fun k hk => N k (fun e => h.lay.np (e ▸ hk))) h.end_
  case first =>
    go_wp2_with (fail)
    go_loopg [4, 5, 6, 7] (U.length + 2) (fun k u4 u5 u6 u7 wr => u5 = .nilIface ∧ ∃ (B' U' : List UInt8) (r' : Nat) (z' : Bool) (lb' lr' : Int) (s : Nat), Rd K base E gs p bb wr B' U' r' z' lb' lr' ∧ Chg (Rd.S K p bb) w wr ∧ B' ++ U' = S ∧ u6 = .int .i64 s ∧ s ≤ B'.length ∧ 10 ∉ B'.take s ∧ U'.length + (if z' then 1 else 2) ≤ k)
    case atStart => exact ⟨rfl, B, U, r, z, lb, lr, 0, H.out, Chg.refl _ _, HS.out, rfl, Nat.zero_le _, by simp, by split <;> omega⟩
    case round =>
      obtain ⟨rfl, B1, U1, r1, z1, lb1, lr1, s, h, hC, hBU, rfl, hs, hno, hk⟩ := hrel
      clear H HS
      obtain ⟨a, ha⟩ : ∃ a : Nat, a = r1 + s := ⟨_, rfl⟩
      obtain ⟨n, hn⟩ : ∃ n : Nat, n = r1 + B1.length := ⟨_, rfl⟩
      have c0 := h.c.c0
      have c2 := h.c.c2
      have c3 := h.c.c3
      have hle := h.le
      rw [← hn] at c3
      have hsum : IntKind.i64.wrap ((r1 : Int) + (s : Int)) = (a : Int) := by rw [IntKind.wrap_i64]; omega
      have h1 : (a : Int) ≤ (n : Int) := by omega
      have h2 : (n : Int) ≤ 4096 := by omega
      have h3 : a ≤ n := by omega
      have h4 : n ≤ 4096 := by omega
      have hnl : n - a = (B1.drop s).length := by rw [List.length_drop]; omega
      have hrb : RB wr (if 4096 = a then some ⟨bb, 0, none⟩ else some ⟨bb, a, none⟩) (B1.drop s) := by
        split
        · have : B1.drop s = [] := List.length_eq_zero_iff.1 (by omega)
          rw [this]; exact RB.nil _ _
        · obtain ⟨L, hL, hLB⟩ := h.row
          refine hL.rb a _ ?_ (by rw [← hnl]; omega)
          rw [ha, ← List.drop_drop]
          conv => rhs; rw [← hLB]
          rw [List.drop_take, List.length_drop]
      have hA : ∃ g o, (if 4096 = a then some (Addr.mk bb 0 none) else some (Addr.mk bb a none)) = some ⟨g, o, none⟩ := by
        split
        · exact ⟨_, _, rfl⟩
        · exact ⟨_, _, rfl⟩
      have HR := Lib.hid (And.intro h (And.intro hC (And.intro hBU (And.intro hs (And.intro hno (And.intro hk (And.intro ha (And.intro hn hle))))))))
      have HB := Lib.hid (And.intro hrb (And.intro hA hnl))
      clear h hC hBU hs hno hk ha hn hle hrb hA hnl
      go_wp2_with (fail)
      go_quiet ((go_at_call 74; exact Calls.quiet_of_same (indexByte_at HB.out.2.1 HB.out.2.2 (HB.out.1.drewN _) _ rfl)))
      generalize (if 4096 = a then some (Addr.mk bb 0 none) else some (Addr.mk bb a none)) = A0
      have hO : Only wr (wr.drewN nq) := (Only.refl wr).drewN nq
      have HO := Lib.hid hO
      by_cases hm : 10 ∈ B1.drop s
      · obtain ⟨x, y, hxy, hx⟩ := List.eq_append_cons_of_mem hm
        rw [hxy, indexByte_app hx]
        have hO := HO.out
        generalize wr.drewN nq = w2 at HO hO
        have h := HR.out.1.only hO
        have d0 := h.c.c0
        have d2 := h.c.c2
        have f2 := h.c.f 2
        obtain ⟨t, ht⟩ : ∃ t : Nat, t = r1 + (x.length + s) := ⟨_, rfl⟩
        have hlen : B1.length = s + x.length + 1 + y.length := by
          have h1 := HR.out.2.2.2.1
          have h2 : (B1.drop s).length = x.length + (y.length + 1) := by rw [hxy]; simp
          rw [List.length_drop] at h2
          omega
        have ht1 : t + 1 ≤ n := by have := HR.out.2.2.2.2.2.2.2.1; omega
        have hxl : (x.length : Int) ≤ 4096 := by omega
        have hsl : (s : Int) ≤ 4096 := by omega
        have hw1 : IntKind.i64.wrap ((r1 : Int) + ((x.length : Int) + (s : Int))) = (t : Int) := by rw [IntKind.wrap_i64]; omega
        have hw2 : IntKind.i64.wrap ((t : Int) + 1) = ((t + 1 : Nat) : Int) := by rw [IntKind.wrap_i64]; omega
        have hi1 : (r1 : Int) ≤ ((t + 1 : Nat) : Int) := by omega
        have hi2 : ((t + 1 : Nat) : Int) ≤ 4096 := by omega
        have hi3 : r1 ≤ t + 1 := by omega
        have hi4 : t + 1 ≤ 4096 := by omega
        obtain ⟨o1, ho1, hrb1, hor1⟩ := HR.out.1.slice
        have HS1 := Lib.hid (And.intro hrb1 (And.intro hor1 (And.intro hxy (And.intro hx (And.intro ht hlen)))))
        have HO2 := Lib.hid h
        clear hrb1 hor1 hxy hx ht hlen h hO c0 c2 c3 hsum h1 h3
        go_wp2
        go_quiet (fail)
        go_wp2
        go_meet
        case rel =>
          obtain ⟨hrb1, hor1, hxy, hx, ht, hlen⟩ := HS1.out
          obtain ⟨h, hC, hBU, hs, hno, hk, ha, hn, hle⟩ := HR.out
          have hO3 : Only wr (w2.drewN nq) := HO.out.drewN nq
          have h3 := HO2.out.only ((Only.refl w2).drewN nq)
          have hB : B1 = (B1.take s ++ x ++ [10]) ++ y := by
            have h0 : B1.take s ++ B1.drop s = B1 := List.take_append_drop s B1
            rw [hxy] at h0
            exact h0.symm.trans (by simp)
          have hl : (B1.take s ++ x ++ [10]).length = t + 1 - r1 := by simp; omega
          have hne : B1 ≠ [] := fun e => by rw [e, List.length_nil] at hlen; omega
          have N : ∀ k, k ≠ p → ((w2.drewN nq).setCell ⟨p, 2, none⟩ (.int .i64 ((r1 : Int) + ((x.length : Int) + (s : Int) + 1)))).heap[k]? = (w2.drewN nq).heap[k]? := fun k hk => Below.heap_setCell _ _ _ _ hk
          have C3 : Chg (Rd.S K p bb) (w2.drewN nq) ((w2.drewN nq).setCell ⟨p, 2, none⟩ (.int .i64 ((r1 : Int) + ((x.length : Int) + (s : Int) + 1)))) :=
            (Chg.refl (Rd.S K p bb) _).setCell (p := ⟨p, 2, none⟩) (fun _ => .inl rfl) _
          obtain ⟨L, hL, hLB⟩ := h3.row
          have hP := h3.c.set2 ((r1 : Int) + ((x.length : Int) + (s : Int) + 1))
          refine ⟨o1, 4096 - r1, B1.take s ++ x ++ [10], .nil, y, U1, t + 1, z1, lb1, lr1, by rw [hl], rfl, ?_, fun _ => ?_, by omega, by omega, ?_, ?_, hC.trans ((hO3.chg _).trans C3)⟩
          · refine .found (B1.take s ++ x) (y ++ U1) ?_ ?_ (by simp; omega)
            · rw [← hBU]
              exact (congrArg (· ++ U1) hB).trans (by simp)
            · rw [List.mem_append]; exact fun e => e.elim hno hx
          · rw [hl, hor1 hne]; omega
          · have hrb : RB wr (some ⟨bb, o1, none⟩) (B1.take s ++ x ++ [10]) := by
              have hrb2 : RB wr (some ⟨bb, o1, none⟩) ((B1.take s ++ x ++ [10]) ++ y) := hB ▸ hrb1
              exact hrb2.left
            exact hrb.same (fun g' o' he _ => (N g' (fun e => by injection he with he; injection he with e1 _; exact h.lay.nb (e ▸ e1.symm))).trans (hO3.at_ g'))
          · refine h3.new C3 ?_ ⟨L, hL.same (N bb h.lay.nb.symm), ?_⟩ (by omega) (K.same h3.u fun k hk => N k (fun e => h.lay.np (e ▸ hk))) (fun e => ⟨(h.end_ e).1, by have := (h.end_ e).2; omega⟩)
            · rw [show ((t + 1 : Nat) : Int) = (r1 : Int) + ((x.length : Int) + (s : Int) + 1) by omega, show ((t + 1 + y.length : Nat) : Int) = ((r1 + B1.length : Nat) : Int) by omega]
              exact hP
            · have h5 : t + 1 = r1 + (B1.take s ++ x ++ [10]).length := by omega
              rw [h5, ← List.drop_drop]
              have h6 : ((L.drop r1).take B1.length).drop (B1.take s ++ x ++ [10]).length = y := by
                rw [hLB]
                exact (congrArg (fun l => l.drop (B1.take s ++ x ++ [10]).length) hB).trans List.drop_left
              rw [List.drop_take] at h6
              rw [show y.length = B1.length - (B1.take s ++ x ++ [10]).length by omega]
              exact h6
      · rw [indexByte_none.2 hm]
        have hO := HO.out
        generalize wr.drewN nq = w2 at HO hO
        have h := HR.out.1.only hO
        cases z1
        · have d4 : w2.cell? ⟨p, 4, none⟩ = some .nilIface := h.c.c4
          have d0 := h.c.c0
          have hbf := fun k => buffered_any (h.only ((Only.refl w2).drewN k))
          have hF := (h.s.s.sen _ hf).cell
          have HBF := Lib.hid hbf
          clear hbf h hO c0 c2 c3 hsum h1 h3
          by_cases hfull : 4096 ≤ B1.length
          · go_wp2
            go_quiet ((go_at_call 63; exact Calls.quiet_of (HBF.out _)))
            have hO3 : Only wr (w2.drewN nq) := HO.out.drewN nq
            have h3 := HR.out.1.only hO3
            generalize w2.drewN nq = w3 at hO3 h3 ⊢
            clear d0 d4 hF HBF HO w2
            have d0 := h3.c.c0
            have d2 := h3.c.c2
            have f2 := h3.c.f 2
            have d3 := h3.c.c3
            have hF := (h3.s.s.sen _ hf).cell
            have hFl : 5 ≠ p := by have := (h3.s.lo _ hf).1; have := h3.lay.bp; omega
            have hP := h3.c.set2 (n : Int)
            rw [← HR.out.2.2.2.2.2.2.2.1] at d3 hP
            have H3 := Lib.hid (And.intro h3 hO3)
            have H5 := Lib.hid hP
            clear h3 hO3 hP
            go_wp2
            go_meet
            case rel =>
              obtain ⟨h3, hO3⟩ := H3.out
              obtain ⟨h, hC, hBU, hs, hno, hk, ha, hn, hle⟩ := HR.out
              have hl : B1.length = 4096 := by omega
              have hn4 : n = 4096 := by omega
              have h10 : 10 ∉ B1 := fun hm' => by
                rw [← List.take_append_drop s B1, List.mem_append] at hm'
                exact hm'.elim hno hm
              have N : ∀ k, k ≠ p → (w3.setCell ⟨p, 2, none⟩ (.int .i64 n)).heap[k]? = w3.heap[k]? := fun k hk => Below.heap_setCell _ _ _ _ hk
              have C3 : Chg (Rd.S K p bb) w3 (w3.setCell ⟨p, 2, none⟩ (.int .i64 n)) := (Chg.refl (Rd.S K p bb) w3).setCell (p := ⟨p, 2, none⟩) (fun _ => .inl rfl) _
              obtain ⟨L, hL, hLB⟩ := h3.row
              have hr0 : r1 = 0 := by omega
              have hST : S.take 4096 = B1 := by rw [← hBU, List.take_append_of_le_length (by omega), ← hl, List.take_length]
              have hSD : S.drop 4096 = U1 := by rw [← hBU, ← hl, List.drop_left]
              refine ⟨0, 4096, B1, .sent 5, [], U1, n, false, lb1, lr1, by rw [hl], rfl, ?_, fun _ => by omega, by omega, Nat.le_refl _, ?_, ?_, hC.trans ((hO3.chg _).trans C3)⟩
              · have hh := SliceSays.full (S := S) (by rw [← hBU, List.length_append]; omega) (by rw [hST]; exact h10)
                rw [hST, hSD] at hh
                exact hh
              · have hrb : RB w3 (some ⟨bb, 0, none⟩) B1 := hL.rb 0 B1 (by rw [← hr0]; exact hLB) (by omega)
                exact hrb.same (fun g' o' he _ => N g' (fun e => by injection he with he; injection he with e1 _; exact h.lay.nb (e ▸ e1.symm)))
              · exact h3.new C3 (by rw [List.length_nil, Nat.add_zero]; exact H5.out) ⟨L, hL.same (N bb h.lay.nb.symm), by simp⟩ (by simpa using h4) (K.same h3.u fun k hk => N k (fun e => h.lay.np (e ▸ hk))) (fun e => by cases e)
          · have hfull' : (B1.length : Int) < 4096 := by omega
            go_wp2
            go_quiet ((go_at_call 63; exact Calls.quiet_of (HBF.out _)))
            have hO3 : Only wr (w2.drewN nq) := HO.out.drewN nq
            have h3 := HR.out.1.only hO3
            generalize w2.drewN nq = w3 at hO3 h3 ⊢
            clear d0 d4 hF HBF HO w2
            have d2 := h3.c.c2
            have d3 := h3.c.c3
            rw [← HR.out.2.2.2.2.2.2.2.1] at d3
            have hsub : IntKind.i64.wrap ((n : Int) - (r1 : Int)) = (B1.length : Int) := by rw [IntKind.wrap_i64]; have := HR.out.2.2.2.2.2.2.2.1; omega
            have H3 := Lib.hid (And.intro h3 hO3)
            clear h3 hO3
            go_wp2
            go_quiet (fail)
            have hO4 : Only w3 (w3.drewN nq) := (Only.refl w3).drewN nq
            have h4' := H3.out.1.only hO4
            generalize w3.drewN nq = w4 at hO4 h4' ⊢
            have H4 := Lib.hid (And.intro h4' hO4)
            clear h4' hO4 d2 d3
            go_wp2_with (go_at_call 67; refine (hK base E gs p bb _ B1 U1 r1 lb1 lr1 H4.out.1 (by omega) hg).mono ?_; rintro e w5 ⟨rfl, hX, hC5⟩)
            obtain ⟨X, U', hXU, h5, hX0⟩ := hX
            obtain ⟨h, hC, hBU, hs, hno, hk, ha, hn, hle⟩ := HR.out
            have h10 : 10 ∉ B1 := fun hm' => by
              rw [← List.take_append_drop s B1, List.mem_append] at hm'
              exact hm'.elim hno hm
            simp only [Bool.false_eq_true, if_false] at hk
            go_roundg (U'.length + (if X.isEmpty = true then 1 else 2))
            case measure =>
              subst hXU
              rw [List.length_append] at hk
              cases X with
              | nil => simp only [List.isEmpty_nil, if_true, List.length_nil] at hk ⊢; omega
              | cons x t => simp only [List.isEmpty_cons, Bool.false_eq_true, if_false, List.length_cons] at hk ⊢; omega
            case rel =>
              exact ⟨rfl, B1 ++ X, U', 0, X.isEmpty, lb1, lr1, B1.length, h5, hC.trans ((H3.out.2.chg _).trans ((H4.out.2.chg _).trans hC5)), by rw [List.append_assoc, ← hXU]; exact hBU, rfl, by simp, by simpa using h10, Nat.le_refl _⟩
        · have d4 : w2.cell? ⟨p, 4, none⟩ = some (.iface 136 (.pointer (some (E 0)))) := h.c.c4
          have d0 := h.c.c0
          have d2 := h.c.c2
          have d3 := h.c.c3
          rw [← HR.out.2.2.2.2.2.2.2.1] at d3
          have hr1 : (r1 : Int) ≤ (n : Int) := by have := HR.out.2.2.2.2.2.2.2.1; omega
          have hr2 : r1 ≤ n := by omega
          have hnl : n - r1 = B1.length := by have := HR.out.2.2.2.2.2.2.2.1; omega
          clear h hO c0 c2 c3 hsum h1 h3
          have HN := Lib.hid hnl
          clear hnl
          go_wp2
          obtain ⟨o1, ho1, hrb1, hor1⟩ := HR.out.1.slice
          have HS1 := Lib.hid (And.intro hrb1 hor1)
          clear hrb1 hor1
          go_quiet (fail)
          have hO3 : Only wr (w2.drewN nq) := HO.out.drewN nq
          have h3 := HR.out.1.only hO3
          generalize w2.drewN nq = w3 at hO3 h3 ⊢
          clear d0 d2 d3 d4 HO w2
          have d2 := h3.c.c2
          have f2 := h3.c.f 2
          have d3 := h3.c.c3
          have P5 := h3.c.set2 (n : Int)
          rw [← HR.out.2.2.2.2.2.2.2.1] at d3
          have H3 := Lib.hid (And.intro h3 hO3)
          have H5 := Lib.hid P5
          clear h3 hO3 P5 ho1
          go_wp2_with (go_at_call 64; refine (readErr_any H5.out).mono ?_; rintro e w4 ⟨rfl, rfl⟩)
          go_meet
          case rel =>
            obtain ⟨h3, hO3⟩ := H3.out
            obtain ⟨h, hC, hBU, hs, hno, hk, ha, hn, hle⟩ := HR.out
            have hU : U1 = [] := (h.end_ rfl).1
            have hlt : r1 + B1.length < 4096 := (h.end_ rfl).2
            have hSB : S = B1 := by rw [← hBU, hU, List.append_nil]
            have h10 : 10 ∉ B1 := fun hm' => by
              rw [← List.take_append_drop s B1, List.mem_append] at hm'
              exact hm'.elim hno hm
            have N : ∀ k, k ≠ p → ((w3.setCell ⟨p, 2, none⟩ (.int .i64 n)).setCell ⟨p, 4, none⟩ .nilIface).heap[k]? = w3.heap[k]? := fun k hk =>
              (Below.heap_setCell _ _ _ _ hk).trans (Below.heap_setCell _ _ _ _ hk)
            have C3 : Chg (Rd.S K p bb) w3 ((w3.setCell ⟨p, 2, none⟩ (.int .i64 n)).setCell ⟨p, 4, none⟩ .nilIface) :=
              (((Chg.refl (Rd.S K p bb) w3).setCell (p := ⟨p, 2, none⟩) (fun _ => .inl rfl) _).setCell (p := ⟨p, 4, none⟩) (fun _ => .inl rfl) _)
            obtain ⟨L, hL, hLB⟩ := h3.row
            have hP := (H5.out.set4 (eofV E false))
            rw [← hn] at hP
            refine ⟨o1, 4096 - r1, B1, .sent 0, [], [], n, false, lb1, lr1, by rw [HN.out], rfl, ?_, fun hne => ?_, by omega, by omega, ?_, ?_, hC.trans ((hO3.chg _).trans C3)⟩
            · subst hSB
              exact .ended h10 (by omega)
            · have := HS1.out.2 hne
              omega
            · exact HS1.out.1.same (fun g' o' he _ => (N g' (fun e => by injection he with he; injection he with e1 _; exact h.lay.nb (e ▸ e1.symm))).trans (hO3.at_ g'))
            · exact h3.new C3 hP ⟨L, hL.same (N bb h.lay.nb.symm), by simp⟩ (by simpa using h4) (by rw [← hU]; exact K.same h3.u fun k hk => N k (fun e => h.lay.np (e ▸ hk))) (fun e => by cases e)
end Go.Proofs.YtilhgjcjofobeaaDoor
namespace Go.Proofs.YtilhgjcjofobeaaDoor
open Go.RowKit

/-- A line without a CR at its end. -/
def dropCR (l : List UInt8) : List UInt8 := if l.getLast? = some 13 then l.dropLast else l
theorem dropCR_cr (t : List UInt8) : dropCR (t ++ [13]) = t := by simp [dropCR]
theorem dropCR_other {t : List UInt8} {b : UInt8} (h : b ≠ 13) : dropCR (t ++ [b]) = t ++ [b] := by simp [dropCR, h]
theorem dropCR_nil : dropCR [] = [] := by simp [dropCR]
/-- What bufio's ReadLine answers of a stream. -/
inductive LineSays (S : List UInt8) : List UInt8 → Bool → Er → List UInt8 → Prop
  | ended : S = [] → LineSays S [] false (.sent 0) []
  | line (l rest : List UInt8) : S = l ++ 10 :: rest → 10 ∉ l → l.length < 4096 → LineSays S (dropCR l) false .nil rest
  | last : S ≠ [] → 10 ∉ S → S.length < 4096 → LineSays S S false .nil []
  | more (t : List UInt8) (b : UInt8) : 4096 ≤ S.length → 10 ∉ S.take 4096 → S.take 4096 = t ++ [b] → b ≠ 13 → LineSays S (t ++ [b]) true .nil (S.drop 4096)
  | back (t : List UInt8) : 4096 ≤ S.length → 10 ∉ S.take 4096 → S.take 4096 = t ++ [13] → LineSays S t true .nil (13 :: S.drop 4096)
/-- A slice of n bytes of the buffer's block that have been read. -/
def Lies (bb r : Nat) (a : Addr) (n : Nat) : Prop := a.block = bb ∧ (0 < n → a.off + n ≤ r)
/-- What bufio's ReadLine leaves. -/
def LineEnd (K : Und) (base : Nat) (E : Nat → Addr) (gs : List Nat) (p bb : Nat) (S : List UInt8) (w : World) (e : Ending) (w' : World) : Prop :=
  ∃ (A : Option Addr) (c : Nat) (line : List UInt8) (more : Bool) (er : Er) (B U : List UInt8) (r : Nat) (z : Bool) (lb lr : Int), e = .returned (.tuple #[.slice A line.length c, .bool more, er.val E]) ∧ LineSays S line more er (B ++ U) ∧
    line.length ≤ c ∧ c ≤ 4096 ∧ RB w' A line ∧ (A = none → line = [] ∧ c = 0) ∧ (∀ a, A = some a → Lies bb r a line.length ∧ a.spot = none) ∧ Rd K base E gs p bb w' B U r z lb lr ∧ Chg (Rd.S K p bb) w w'

theorem eql_nil_left (t : TypeId) (v : Value) (w : World) : (binOp .eql 47 .nilIface (.iface t v)).run Tryd.prog w = .ok (.bool false) w := run_eql_iface_nil_left w t v Tryd.es_ti

theorem RB.at_ {w : World} {g o : Nat} {l : List UInt8} (h : RB w (some ⟨g, o, none⟩) l) (i : Nat) (u : UInt8) (hu : l[i]? = some u) : w.cell? ⟨g, o + i, none⟩ = some (.int .u8 u.toNat) := by
  have hne : l ≠ [] := by rintro rfl; simp at hu
  obtain ⟨g', o', he, hx⟩ := h hne
  injection he with he
  injection he with h1 h2
  subst h1; subst h2
  exact hx i u hu
set_option maxRecDepth 200000 in
set_option maxHeartbeats 8000000 in
theorem readLine_any {K : Und} (hK : FillOK K) {base p bb : Nat} {E : Nat → Addr} {gs : List Nat} {w : World} {B U : List UInt8} {r : Nat} {z : Bool} {lb lr : Int} (h : Rd K base E gs p bb w B U r z lb lr) (hg : 0 ∈ gs) (hf : 5 ∈ gs) :
    Calls Tryd.prog 69 #[.pointer (some ⟨p, 0, none⟩)] w (LineEnd K base E gs p bb (B ++ U) w) := by
  have hS := readSlice_any hK h hg hf
  generalize B ++ U = S at hS ⊢
  have H := Lib.hid h
  have HS := Lib.hid hS
  clear h hS
  go_enter Tryd.func69, Tryd.ntmps69
  go_wp2_with (go_at_call 88; refine HS.out.mono ?_; rintro e w1 ⟨o, c, line, er, B1, U1, r1, z1, lb1, lr1, rfl, hsay, hor, hlc, hc4, hrb, h1, hC⟩; have hF := (h1.s.s.sen _ hf).cell)
  have hK1 := Lib.hid (And.intro hor (And.intro hrb (And.intro h1 hC)))
  obtain ⟨R, hR⟩ : ∃ R, R = B1 ++ U1 := ⟨_, rfl⟩
  rw [← hR] at hsay
  have HR := Lib.hid hR
  clear hR
  have hx := fun i u => RB.at_ hrb i u
  have h1' := h1
  clear hor hrb hC H HS h1
  cases hsay with
  | found l rest hl h10 hlt =>
    have e0 := eql_nil_left 136 (.pointer (some (E 5)))
    rcases List.eq_nil_or_concat l with rfl | ⟨t, b, rfl⟩
    · have c10 : w1.cell? ⟨bb, o, none⟩ = some (.int .u8 10) := hx 0 10 rfl
      have HL := Lib.hid (And.intro hl hlc)
      have hc1 : 1 ≤ c := hlc
      have hc2 : (0 : Int) ≤ (c : Int) := by omega
      clear hx hl hlc h10 hlt
      have hlen : (([] : List UInt8) ++ [10]).length = 1 := rfl
      rw [hlen]
      simp only [Er.val]
      go_simp
      go_wp2
      go_ret3
      obtain ⟨hor, hrb, h1, hC⟩ := hK1.out
      obtain ⟨hl, hlc⟩ := HL.out
      refine ⟨some ⟨bb, o, none⟩, c, [], false, .nil, B1, U1, r1, z1, lb1, lr1, rfl, ?_, by simp, hc4, RB.nil _ _, (fun e => (by cases e)), (fun a e => (by cases e; exact ⟨⟨rfl, fun h => absurd h (by simp)⟩, rfl⟩)), h1, hC⟩
      have hh := LineSays.line [] _ hl (by simp) (by simp)
      rw [dropCR_nil, HR.out] at hh
      exact hh
    · rw [List.concat_eq_append] at *
      have hlen : (t ++ [b] ++ [10]).length = t.length + 1 + 1 := by simp
      have c10 : w1.cell? ⟨bb, o + (t.length + 1), none⟩ = some (.int .u8 10) := hx (t.length + 1) 10 (by simp)
      have cb : w1.cell? ⟨bb, o + t.length, none⟩ = some (.int .u8 b.toNat) := hx t.length b (by simp)
      rw [hlen] at hlc
      have HL := Lib.hid (And.intro hl (And.intro hlc (And.intro h10 hlt)))
      have hc1 : t.length + 1 + 1 ≤ c := hlc
      have hc3 : (t.length : Int) + 1 + 1 ≤ (c : Int) := by omega
      have hc2 : (0 : Int) ≤ (c : Int) := by omega
      have htl : (t.length : Int) ≤ 4096 := by omega
      clear hx hl hlc h10 hlt
      rw [hlen]
      simp only [Er.val]
      by_cases hb : b = 13
      · subst hb
        have c13 : w1.cell? ⟨bb, o + t.length, none⟩ = some (.int .u8 13) := cb
        clear cb
        go_simp
        go_wp2
        go_ret3
        obtain ⟨hor, hrb, h1, hC⟩ := hK1.out
        obtain ⟨hl, hlc, h10, hlt⟩ := HL.out
        refine ⟨some ⟨bb, o, none⟩, c, t, false, .nil, B1, U1, r1, z1, lb1, lr1, ?_, ?_, by omega, hc4, (RB.left (b := [13] ++ [10]) (by rw [← List.append_assoc]; exact hrb)), (fun e => (by cases e)), (fun a e => (by cases e; exact ⟨⟨rfl, fun _ => (by have := hor (by simp); simp at this; show o + t.length ≤ r1; omega)⟩, rfl⟩)), h1, hC⟩
        · first | rfl | (congr 1; simp)
        · have hh := LineSays.line _ _ hl h10 hlt
          rw [dropCR_cr, HR.out] at hh
          exact hh
      · have hb' : ((b.toNat : Int) == 13) = false := by
          rw [beq_eq_false_iff_ne]; exact fun e => hb ((byte_eq_iff b 13).1 e)
        go_simp
        go_wp2
        go_ret3
        obtain ⟨hor, hrb, h1, hC⟩ := hK1.out
        obtain ⟨hl, hlc, h10, hlt⟩ := HL.out
        refine ⟨some ⟨bb, o, none⟩, c, t ++ [b], false, .nil, B1, U1, r1, z1, lb1, lr1, ?_, ?_, by simp; omega, hc4, hrb.left, (fun e => (by cases e)), (fun a e => (by cases e; exact ⟨⟨rfl, fun _ => (by have := hor (by simp); simp at this; show o + (t ++ [b]).length ≤ r1; simp; omega)⟩, rfl⟩)), h1, hC⟩
        · rw [show (t ++ [b]).length = t.length + 1 by simp]
          rfl
        · have hh := LineSays.line _ _ hl h10 hlt
          rw [dropCR_other hb, HR.out] at hh
          exact hh
  | ended h10 hlt =>
    have e0 := es_other h1'.s.s hg hf (show 0 ≠ 5 by decide)
    clear h1'
    rcases List.eq_nil_or_concat S with rfl | ⟨t, b, rfl⟩
    · clear hx h10 hlt
      simp only [Er.val, List.length_nil]
      go_simp
      go_wp2
      go_ret3
      obtain ⟨hor, hrb, h1, hC⟩ := hK1.out
      exact ⟨none, 0, [], false, .sent 0, B1, U1, r1, z1, lb1, lr1, rfl, (HR.out ▸ LineSays.ended rfl), Nat.le_refl _, by omega, RB.nil _ _, (fun _ => ⟨rfl, rfl⟩), (fun a e => (by cases e)), h1, hC⟩
    · rw [List.concat_eq_append] at *
      have hlen : (t ++ [b]).length = t.length + 1 := by simp
      have cb : w1.cell? ⟨bb, o + t.length, none⟩ = some (.int .u8 b.toNat) := hx t.length b (by simp)
      have hb : b ≠ 10 := by rintro rfl; exact h10 (by simp)
      have hb' : ((b.toNat : Int) == 10) = false := by
        rw [beq_eq_false_iff_ne]; exact fun e => hb ((byte_eq_iff b 10).1 e)
      rw [hlen] at hlc hlt
      have htl : (t.length : Int) ≤ 4096 := by omega
      have hc3 : (t.length : Int) + 1 ≤ (c : Int) := by omega
      have HL := Lib.hid (And.intro hlc (And.intro h10 hlt))
      clear hx h10 hlt
      rw [hlen]
      simp only [Er.val]
      go_simp
      go_wp2
      go_ret3
      obtain ⟨hor, hrb, h1, hC⟩ := hK1.out
      obtain ⟨hlc, h10, hlt⟩ := HL.out
      refine ⟨some ⟨bb, o, none⟩, c, t ++ [b], false, .nil, B1, U1, r1, z1, lb1, lr1, ?_, (HR.out ▸ LineSays.last (by simp) h10 (by rw [hlen]; exact hlt)), by rw [hlen]; exact hlc, hc4, hrb, (fun e => (by cases e)), (fun a e => (by cases e; exact ⟨⟨rfl, fun _ => (by have := hor (by simp); exact Nat.le_of_eq this)⟩, rfl⟩)), h1, hC⟩
      rw [hlen]; rfl
  | full hlt h10 =>
    have e0 := fun w => es_same E 5 w
    obtain ⟨t, b, htb⟩ : ∃ t b, S.take 4096 = t ++ [b] := by
      rcases List.eq_nil_or_concat (S.take 4096) with h0 | ⟨t, b, h0⟩
      · have := congrArg List.length h0
        rw [List.length_take] at this
        simp at this
        rw [this] at hlt
        simp at hlt
      · exact ⟨t, b, by rw [h0, List.concat_eq_append]⟩
    have htl : t.length = 4095 := by
      have := congrArg List.length htb
      rw [List.length_take, List.length_append] at this
      simp at this
      omega
    have hlen : (S.take 4096).length = 4096 := by rw [List.length_take]; omega
    have cb : w1.cell? ⟨bb, o + 4095, none⟩ = some (.int .u8 b.toNat) := hx 4095 b (by rw [htb, ← htl]; simp)
    have hc4' : c = 4096 := by rw [hlen] at hlc; omega
    subst hc4'
    have hor := hK1.out.1 (by rw [← List.length_pos_iff]; omega)
    rw [hlen] at hor
    have hle := h1'.le
    have hr1 : r1 = 4096 := by omega
    have ho : o = 0 := by omega
    have hB1 : B1 = [] := List.length_eq_zero_iff.1 (by omega)
    subst hr1; subst ho; subst hB1
    have HL := Lib.hid (And.intro hlt (And.intro h10 (And.intro htb htl)))
    have H1 := Lib.hid h1'
    have d2 := h1'.c.c2
    have f2 := h1'.c.f 2
    clear hx hlt h10 htb htl hlc hor hle h1'
    rw [hlen]
    simp only [Er.val, Nat.zero_add] at cb ⊢
    by_cases hb : b = 13
    · subst hb
      have c13 : w1.cell? ⟨bb, 4095, none⟩ = some (.int .u8 13) := cb
      clear cb
      go_simp
      go_wp2
      go_ret3
      obtain ⟨hor, hrb, h1, hC⟩ := hK1.out
      obtain ⟨hlt, h10, htb, htl⟩ := HL.out
      have N : ∀ k, k ≠ p → (w1.setCell ⟨p, 2, none⟩ (.int .i64 4095)).heap[k]? = w1.heap[k]? := fun k hk => Below.heap_setCell _ _ _ _ hk
      have C3 : Chg (Rd.S K p bb) w1 (w1.setCell ⟨p, 2, none⟩ (.int .i64 4095)) := (Chg.refl (Rd.S K p bb) w1).setCell (p := ⟨p, 2, none⟩) (fun _ => .inl rfl) _
      obtain ⟨L, hL, hLB⟩ := h1.row
      have hL1 : (L.drop 4095).take 1 = [13] := by
        have h13 := hL.cell (i := 4095) (by omega)
        rw [c13] at h13
        have hll := hL.len
        rw [List.getD_eq_getElem?_getD, List.getElem?_eq_getElem (by omega)] at h13
        simp only [Option.getD_some, Option.some.injEq, Value.int.injEq, true_and] at h13
        have h13' : L[4095] = 13 := ((byte_eq_iff 13 L[4095]).1 h13).symm
        rw [List.drop_eq_getElem_cons (by omega), h13']
        rfl
      refine ⟨some ⟨bb, 0, none⟩, 4096, t, true, .nil, [13], U1, 4095, z1, lb1, lr1, ?_, ?_, by omega, by omega, ?_, (fun e => (by cases e)), (fun a e => (by cases e; exact ⟨⟨rfl, fun _ => (by show 0 + t.length ≤ 4095; omega)⟩, rfl⟩)), ?_, hC.trans C3⟩
      · rw [htl]; rfl
      · have hh := LineSays.back t hlt h10 htb
        rw [HR.out] at hh
        exact hh
      · have hrb2 : RB w1 (some ⟨bb, 0, none⟩) (t ++ [13]) := htb ▸ hrb
        exact (hrb2.left).same (fun g' o' he _ => N g' (fun e => by injection he with he; injection he with e1 _; exact h1.lay.nb (e ▸ e1.symm)))
      · exact h1.new C3 (h1.c.set2 4095) ⟨L, hL.same (N bb h1.lay.nb.symm), hL1⟩ (by simp) (K.same h1.u fun k hk => N k (fun e => h1.lay.np (e ▸ hk))) (fun e => absurd (h1.end_ e).2 (by simp))
    · have hb' : ((b.toNat : Int) == 13) = false := by
        rw [beq_eq_false_iff_ne]; exact fun e => hb ((byte_eq_iff b 13).1 e)
      go_simp
      go_wp2
      go_ret3
      obtain ⟨hor, hrb, h1, hC⟩ := hK1.out
      obtain ⟨hlt, h10, htb, htl⟩ := HL.out
      refine ⟨some ⟨bb, 0, none⟩, 4096, t ++ [b], true, .nil, [], U1, 4096, z1, lb1, lr1, ?_, ?_, ?_, by omega, ?_, (fun e => (by cases e)), (fun a e => (by cases e; exact ⟨⟨rfl, fun _ => (by show 0 + (t ++ [b]).length ≤ 4096; simp; omega)⟩, rfl⟩)), h1, hC⟩
      · rw [← htb, hlen]; rfl
      · have hh := LineSays.more t b hlt h10 htb hb
        rw [HR.out] at hh
        exact hh
      · rw [← htb, hlen]; exact Nat.le_refl _
      · rw [← htb]; exact hrb
end Go.Proofs.YtilhgjcjofobeaaDoor
namespace Go.Proofs.YtilhgjcjofobeaaDoor
open Go.RowKit

/-- What readLineSlice answers of a stream: whole lines, or all that is left; an error leaves nothing. -/
inductive TSays : List UInt8 → List UInt8 → Er → List UInt8 → Prop
  | done {S line rest : List UInt8} : LineSays S line false .nil rest → TSays S line .nil rest
  | err {S line rest : List UInt8} {er : Er} : LineSays S line false er rest → er ≠ .nil → TSays S [] er rest
  | step {S a S' b rest : List UInt8} : LineSays S a true .nil S' → TSays S' b .nil rest → TSays S (a ++ b) .nil rest
  | fall {S a S' b rest : List UInt8} {er : Er} : LineSays S a true .nil S' → TSays S' b er rest → er ≠ .nil → TSays S [] er rest

/-- The block of a textproto.Reader. -/
def TpC (w : World) (t p : Nat) (dot buf : Value) : Prop := Blk w t #[.pointer (some ⟨p, 0, none⟩), dot, buf] 77
section
variable {w : World} {t p : Nat} {dot buf : Value}
theorem TpC.c0 (h : TpC w t p dot buf) : w.cell? ⟨t, 0, none⟩ = some (.pointer (some ⟨p, 0, none⟩)) := Blk.cell h 0
theorem TpC.c1 (h : TpC w t p dot buf) : w.cell? ⟨t, 1, none⟩ = some dot := Blk.cell h 1
theorem TpC.c2 (h : TpC w t p dot buf) : w.cell? ⟨t, 2, none⟩ = some buf := Blk.cell h 2
theorem TpC.f (h : TpC w t p dot buf) (i : Nat) : w.frozen? ⟨t, i, none⟩ = false := Blk.free h i
theorem TpC.lt (h : TpC w t p dot buf) : t < w.heap.size := Blk.lt h
theorem TpC.same {w' : World} (h : TpC w t p dot buf) (hb : w'.heap[t]? = w.heap[t]?) : TpC w' t p dot buf := Blk.same h hb
end
theorem closeDot_nil {w : World} {t p : Nat} {buf : Value} (h : TpC w t p (.pointer none) buf) :
    Calls Tryd.prog 68 #[.pointer (some ⟨t, 0, none⟩)] w fun e w' => e = .returned (.tuple #[]) ∧ w = w' := by
  have c1 := h.c1
  go_enter Tryd.func68, Tryd.ntmps68
  go_wp2
  ((try simp only [Exit.inBlock, Exit.then]); refine bodyPost_ret (results_none rfl _ _ _) rfl ?_)
  exact ⟨rfl, rfl⟩
theorem OB.chg {w w' : World} {base : Nat} {v : Value} {l : List UInt8} {S : Nat → Prop} (h : OB w base v l) (hc : Chg S w w') (hS : ∀ k, S k → k < base) : OB w' base v l := by
  obtain ⟨h1, h2⟩ := h
  refine ⟨h1, ?_⟩
  rcases h2 with ⟨rfl, h0⟩ | ⟨g, cap, cur, rfl, hbg, hg, r⟩
  · exact .inl ⟨rfl, h0⟩
  · exact .inr ⟨g, cap, cur, rfl, hbg, by rw [hc.block g (Array.getElem?_eq_some_iff.1 hg).1 (fun hs => by have := hS g hs; omega)]; exact hg, r⟩
theorem Rd.below {K : Und} {base p bb : Nat} {E : Nat → Addr} {gs : List Nat} {w w' : World} {B U : List UInt8} {r : Nat} {z : Bool} {lb lr : Int} (h : Rd K base E gs p bb w B U r z lb lr) {N : Nat} (hb : Below N w w')
    (hN : ∀ k, Rd.S K p bb k → k < N) : Rd K base E gs p bb w' B U r z lb lr := by
  obtain ⟨L, hL, hB⟩ := h.row
  have hp := hN p (.inl rfl)
  have hlay := h.lay
  have hbN : base ≤ N := by have := hlay.bp; omega
  exact ⟨hlay, h.c.same (hb.block p hp), ⟨L, hL.same (hb.block bb (hN bb (.inr (.inl rfl)))), hB⟩, h.le, K.same h.u (fun k hk => hb.block k (hN k (.inr (.inr hk)))), h.end_, h.s.below (hb.mono hbN)⟩
theorem Rd.S_lt {K : Und} {base p bb : Nat} {E : Nat → Addr} {gs : List Nat} {w : World} {B U : List UInt8} {r : Nat} {z : Bool} {lb lr : Int} (h : Rd K base E gs p bb w B U r z lb lr) : ∀ k, Rd.S K p bb k → k < w.heap.size := by
  intro k hk
  rcases hk with rfl | rfl | hk
  · exact h.c.lt
  · obtain ⟨L, hL, _⟩ := h.row
    exact hL.lt (by omega)
  · exact K.lt h.u k hk
/-- What readLineSlice leaves: a slice that reads as the line (nil behind an error), the stream's rest. -/
def TEnd (K : Und) (base : Nat) (E : Nat → Addr) (gs : List Nat) (t p bb : Nat) (buf : Value) (S : List UInt8) (w : World) (e : Ending) (w' : World) : Prop :=
  ∃ (A : Option Addr) (c : Nat) (line : List UInt8) (er : Er) (B U : List UInt8) (r : Nat) (z : Bool) (lb lr : Int), e = .returned (.tuple #[.slice A line.length c, er.val E]) ∧ TSays S line er (B ++ U) ∧
    line.length ≤ c ∧ c ≤ 9223372036854775807 ∧ RB w' A line ∧ ((A = none → c = 0) ∧ ∀ a, A = some a → a.spot = none ∧ (Lies bb r a line.length ∨ (w.heap.size ≤ a.block ∧ ∀ i, w'.frozen? ⟨a.block, i, none⟩ = false))) ∧ TpC w' t p (.pointer none) buf ∧ Rd K base E gs p bb w' B U r z lb lr ∧ Chg (Rd.S K p bb) w w'
end Go.Proofs.YtilhgjcjofobeaaDoor
