/- The walk of bufio's ReadLine, over any reader beneath. -/
import Derived.Test.YtfnkkjehkegpgaaDoorRdE
import Derived.LaidEql
namespace Go.Proofs.YtfnkkjehkegpgaaDoor
open Go.RowKit

/-- A line without a CR at its end. -/
def dropCR (l : List UInt8) : List UInt8 := if l.getLast? = some 13 then l.dropLast else l
theorem dropCR_cr (t : List UInt8) : dropCR (t ++ [13]) = t := by simp [dropCR]
theorem dropCR_other {t : List UInt8} {b : UInt8} (h : b ≠ 13) : dropCR (t ++ [b]) = t ++ [b] := by simp [dropCR, h]
theorem dropCR_nil : dropCR [] = [] := by simp [dropCR]
/-- What bufio's ReadLine answers of a stream. -/
inductive LineSays (S : List UInt8) : List UInt8 → Bool → Er → List UInt8 → Prop
  | ended : S = [] → LineSays S [] false (.sent 0) []
  | line (l rest : List UInt8) : S = l ++ 10 :: rest → 10 ∉ l → l.length < 4096 → LineSays S (dropCR l) false .nil rest
  | last : S ≠ [] → 10 ∉ S → S.length < 4096 → LineSays S S false .nil []
  | more (t : List UInt8) (b : UInt8) : 4096 ≤ S.length → 10 ∉ S.take 4096 → S.take 4096 = t ++ [b] → b ≠ 13 → LineSays S (t ++ [b]) true .nil (S.drop 4096)
  | back (t : List UInt8) : 4096 ≤ S.length → 10 ∉ S.take 4096 → S.take 4096 = t ++ [13] → LineSays S t true .nil (13 :: S.drop 4096)
/-- A slice of n bytes of the buffer's block that have been read. -/
def Lies (bb r : Nat) (a : Addr) (n : Nat) : Prop := a.block = bb ∧ (0 < n → a.off + n ≤ r)
/-- What bufio's ReadLine leaves. -/
def LineEnd (K : Und) (base : Nat) (E : Nat → Addr) (gs : List Nat) (p bb : Nat) (S : List UInt8) (w : World) (e : Ending) (w' : World) : Prop :=
  ∃ (A : Option Addr) (c : Nat) (line : List UInt8) (more : Bool) (er : Er) (B U : List UInt8) (r : Nat) (z : Bool) (lb lr : Int), e = .returned (.tuple #[.slice A line.length c, .bool more, er.val E]) ∧ LineSays S line more er (B ++ U) ∧
    line.length ≤ c ∧ c ≤ 4096 ∧ RB w' A line ∧ (A = none → line = [] ∧ c = 0) ∧ (∀ a, A = some a → Lies bb r a line.length ∧ a.spot = none) ∧ Rd K base E gs p bb w' B U r z lb lr ∧ Chg (Rd.S K p bb) w w'

theorem eql_nil_left (t : TypeId) (v : Value) (w : World) : (binOp .eql 47 .nilIface (.iface t v)).run Tryd.prog w = .ok (.bool false) w := run_eql_iface_nil_left w t v Tryd.es_ti

theorem RB.at_ {w : World} {g o : Nat} {l : List UInt8} (h : RB w (some ⟨g, o, none⟩) l) (i : Nat) (u : UInt8) (hu : l[i]? = some u) : w.cell? ⟨g, o + i, none⟩ = some (.int .u8 u.toNat) := by
  have hne : l ≠ [] := by rintro rfl; simp at hu
  obtain ⟨g', o', he, hx⟩ := h hne
  injection he with he
  injection he with h1 h2
  subst h1; subst h2
  exact hx i u hu
set_option maxRecDepth 200000 in
set_option maxHeartbeats 8000000 in
theorem readLine_any {K : Und} (hK : FillOK K) {base p bb : Nat} {E : Nat → Addr} {gs : List Nat} {w : World} {B U : List UInt8} {r : Nat} {z : Bool} {lb lr : Int} (h : Rd K base E gs p bb w B U r z lb lr) (hg : 0 ∈ gs) (hf : 4 ∈ gs) :
    Calls Tryd.prog 46 #[.pointer (some ⟨p, 0, none⟩)] w (LineEnd K base E gs p bb (B ++ U) w) := by
  have hS := readSlice_any hK h hg hf
  generalize B ++ U = S at hS ⊢
  have H := Lib.hid h
  have HS := Lib.hid hS
  clear h hS
  go_enter Tryd.func46, Tryd.ntmps46
  go_wp2_with (go_at_call 50; refine HS.out.mono ?_; rintro e w1 ⟨o, c, line, er, B1, U1, r1, z1, lb1, lr1, rfl, hsay, hor, hlc, hc4, hrb, h1, hC⟩; have hF := (h1.s.s.sen _ hf).cell)
  have hK1 := Lib.hid (And.intro hor (And.intro hrb (And.intro h1 hC)))
  obtain ⟨R, hR⟩ : ∃ R, R = B1 ++ U1 := ⟨_, rfl⟩
  rw [← hR] at hsay
  have HR := Lib.hid hR
  clear hR
  have hx := fun i u => RB.at_ hrb i u
  have h1' := h1
  clear hor hrb hC H HS h1
  cases hsay with
  | found l rest hl h10 hlt =>
    have e0 := eql_nil_left 118 (.pointer (some (E 4)))
    rcases List.eq_nil_or_concat l with rfl | ⟨t, b, rfl⟩
    · have c10 : w1.cell? ⟨bb, o, none⟩ = some (.int .u8 10) := hx 0 10 rfl
      have HL := Lib.hid (And.intro hl hlc)
      have hc1 : 1 ≤ c := hlc
      have hc2 : (0 : Int) ≤ (c : Int) := by omega
      clear hx hl hlc h10 hlt
      have hlen : (([] : List UInt8) ++ [10]).length = 1 := rfl
      rw [hlen]
      simp only [Er.val]
      go_simp
      go_wp2
      go_ret3
      obtain ⟨hor, hrb, h1, hC⟩ := hK1.out
      obtain ⟨hl, hlc⟩ := HL.out
      refine ⟨some ⟨bb, o, none⟩, c, [], false, .nil, B1, U1, r1, z1, lb1, lr1, rfl, ?_, by simp, hc4, RB.nil _ _, (fun e => (by cases e)), (fun a e => (by cases e; exact ⟨⟨rfl, fun h => absurd h (by simp)⟩, rfl⟩)), h1, hC⟩
      have hh := LineSays.line [] _ hl (by simp) (by simp)
      rw [dropCR_nil, HR.out] at hh
      exact hh
    · rw [List.concat_eq_append] at *
      have hlen : (t ++ [b] ++ [10]).length = t.length + 1 + 1 := by simp
      have c10 : w1.cell? ⟨bb, o + (t.length + 1), none⟩ = some (.int .u8 10) := hx (t.length + 1) 10 (by simp)
      have cb : w1.cell? ⟨bb, o + t.length, none⟩ = some (.int .u8 b.toNat) := hx t.length b (by simp)
      rw [hlen] at hlc
      have HL := Lib.hid (And.intro hl (And.intro hlc (And.intro h10 hlt)))
      have hc1 : t.length + 1 + 1 ≤ c := hlc
      have hc3 : (t.length : Int) + 1 + 1 ≤ (c : Int) := by omega
      have hc2 : (0 : Int) ≤ (c : Int) := by omega
      have htl : (t.length : Int) ≤ 4096 := by omega
      clear hx hl hlc h10 hlt
      rw [hlen]
      simp only [Er.val]
      by_cases hb : b = 13
      · subst hb
        have c13 : w1.cell? ⟨bb, o + t.length, none⟩ = some (.int .u8 13) := cb
        clear cb
        go_simp
        go_wp2
        go_ret3
        obtain ⟨hor, hrb, h1, hC⟩ := hK1.out
        obtain ⟨hl, hlc, h10, hlt⟩ := HL.out
        refine ⟨some ⟨bb, o, none⟩, c, t, false, .nil, B1, U1, r1, z1, lb1, lr1, ?_, ?_, by omega, hc4, (RB.left (b := [13] ++ [10]) (by rw [← List.append_assoc]; exact hrb)), (fun e => (by cases e)), (fun a e => (by cases e; exact ⟨⟨rfl, fun _ => (by have := hor (by simp); simp at this; show o + t.length ≤ r1; omega)⟩, rfl⟩)), h1, hC⟩
        · first | rfl | (congr 1; simp)
        · have hh := LineSays.line _ _ hl h10 hlt
          rw [dropCR_cr, HR.out] at hh
          exact hh
      · have hb' : ((b.toNat : Int) == 13) = false := by
          rw [beq_eq_false_iff_ne]; exact fun e => hb ((byte_eq_iff b 13).1 e)
        go_simp
        go_wp2
        go_ret3
        obtain ⟨hor, hrb, h1, hC⟩ := hK1.out
        obtain ⟨hl, hlc, h10, hlt⟩ := HL.out
        refine ⟨some ⟨bb, o, none⟩, c, t ++ [b], false, .nil, B1, U1, r1, z1, lb1, lr1, ?_, ?_, by simp; omega, hc4, hrb.left, (fun e => (by cases e)), (fun a e => (by cases e; exact ⟨⟨rfl, fun _ => (by have := hor (by simp); simp at this; show o + (t ++ [b]).length ≤ r1; simp; omega)⟩, rfl⟩)), h1, hC⟩
        · rw [show (t ++ [b]).length = t.length + 1 by simp]
          rfl
        · have hh := LineSays.line _ _ hl h10 hlt
          rw [dropCR_other hb, HR.out] at hh
          exact hh
  | ended h10 hlt =>
    have e0 := es_other h1'.s.s hg hf (show 0 ≠ 4 by decide)
    clear h1'
    rcases List.eq_nil_or_concat S with rfl | ⟨t, b, rfl⟩
    · clear hx h10 hlt
      simp only [Er.val, List.length_nil]
      go_simp
      go_wp2
      go_ret3
      obtain ⟨hor, hrb, h1, hC⟩ := hK1.out
      exact ⟨none, 0, [], false, .sent 0, B1, U1, r1, z1, lb1, lr1, rfl, (HR.out ▸ LineSays.ended rfl), Nat.le_refl _, by omega, RB.nil _ _, (fun _ => ⟨rfl, rfl⟩), (fun a e => (by cases e)), h1, hC⟩
    · rw [List.concat_eq_append] at *
      have hlen : (t ++ [b]).length = t.length + 1 := by simp
      have cb : w1.cell? ⟨bb, o + t.length, none⟩ = some (.int .u8 b.toNat) := hx t.length b (by simp)
      have hb : b ≠ 10 := by rintro rfl; exact h10 (by simp)
      have hb' : ((b.toNat : Int) == 10) = false := by
        rw [beq_eq_false_iff_ne]; exact fun e => hb ((byte_eq_iff b 10).1 e)
      rw [hlen] at hlc hlt
      have htl : (t.length : Int) ≤ 4096 := by omega
      have hc3 : (t.length : Int) + 1 ≤ (c : Int) := by omega
      have HL := Lib.hid (And.intro hlc (And.intro h10 hlt))
      clear hx h10 hlt
      rw [hlen]
      simp only [Er.val]
      go_simp
      go_wp2
      go_ret3
      obtain ⟨hor, hrb, h1, hC⟩ := hK1.out
      obtain ⟨hlc, h10, hlt⟩ := HL.out
      refine ⟨some ⟨bb, o, none⟩, c, t ++ [b], false, .nil, B1, U1, r1, z1, lb1, lr1, ?_, (HR.out ▸ LineSays.last (by simp) h10 (by rw [hlen]; exact hlt)), by rw [hlen]; exact hlc, hc4, hrb, (fun e => (by cases e)), (fun a e => (by cases e; exact ⟨⟨rfl, fun _ => (by have := hor (by simp); exact Nat.le_of_eq this)⟩, rfl⟩)), h1, hC⟩
      rw [hlen]; rfl
  | full hlt h10 =>
    have e0 := fun w => es_same E 4 w
    obtain ⟨t, b, htb⟩ : ∃ t b, S.take 4096 = t ++ [b] := by
      rcases List.eq_nil_or_concat (S.take 4096) with h0 | ⟨t, b, h0⟩
      · have := congrArg List.length h0
        rw [List.length_take] at this
        simp at this
        rw [this] at hlt
        simp at hlt
      · exact ⟨t, b, by rw [h0, List.concat_eq_append]⟩
    have htl : t.length = 4095 := by
      have := congrArg List.length htb
      rw [List.length_take, List.length_append] at this
      simp at this
      omega
    have hlen : (S.take 4096).length = 4096 := by rw [List.length_take]; omega
    have cb : w1.cell? ⟨bb, o + 4095, none⟩ = some (.int .u8 b.toNat) := hx 4095 b (by rw [htb, ← htl]; simp)
    have hc4' : c = 4096 := by rw [hlen] at hlc; omega
    subst hc4'
    have hor := hK1.out.1 (by rw [← List.length_pos_iff]; omega)
    rw [hlen] at hor
    have hle := h1'.le
    have hr1 : r1 = 4096 := by omega
    have ho : o = 0 := by omega
    have hB1 : B1 = [] := List.length_eq_zero_iff.1 (by omega)
    subst hr1; subst ho; subst hB1
    have HL := Lib.hid (And.intro hlt (And.intro h10 (And.intro htb htl)))
    have H1 := Lib.hid h1'
    have d2 := h1'.c.c2
    have f2 := h1'.c.f 2
    clear hx hlt h10 htb htl hlc hor hle h1'
    rw [hlen]
    simp only [Er.val, Nat.zero_add] at cb ⊢
    by_cases hb : b = 13
    · subst hb
      have c13 : w1.cell? ⟨bb, 4095, none⟩ = some (.int .u8 13) := cb
      clear cb
      go_simp
      go_wp2
      go_ret3
      obtain ⟨hor, hrb, h1, hC⟩ := hK1.out
      obtain ⟨hlt, h10, htb, htl⟩ := HL.out
      have N : ∀ k, k ≠ p → (w1.setCell ⟨p, 2, none⟩ (.int .i64 4095)).heap[k]? = w1.heap[k]? := fun k hk => Below.heap_setCell _ _ _ _ hk
      have C3 : Chg (Rd.S K p bb) w1 (w1.setCell ⟨p, 2, none⟩ (.int .i64 4095)) := (Chg.refl (Rd.S K p bb) w1).setCell (p := ⟨p, 2, none⟩) (fun _ => .inl rfl) _
      obtain ⟨L, hL, hLB⟩ := h1.row
      have hL1 : (L.drop 4095).take 1 = [13] := by
        have h13 := hL.cell (i := 4095) (by omega)
        rw [c13] at h13
        have hll := hL.len
        rw [List.getD_eq_getElem?_getD, List.getElem?_eq_getElem (by omega)] at h13
        simp only [Option.getD_some, Option.some.injEq, Value.int.injEq, true_and] at h13
        have h13' : L[4095] = 13 := ((byte_eq_iff 13 L[4095]).1 h13).symm
        rw [List.drop_eq_getElem_cons (by omega), h13']
        rfl
      refine ⟨some ⟨bb, 0, none⟩, 4096, t, true, .nil, [13], U1, 4095, z1, lb1, lr1, ?_, ?_, by omega, by omega, ?_, (fun e => (by cases e)), (fun a e => (by cases e; exact ⟨⟨rfl, fun _ => (by show 0 + t.length ≤ 4095; omega)⟩, rfl⟩)), ?_, hC.trans C3⟩
      · rw [htl]; rfl
      · have hh := LineSays.back t hlt h10 htb
        rw [HR.out] at hh
        exact hh
      · have hrb2 : RB w1 (some ⟨bb, 0, none⟩) (t ++ [13]) := htb ▸ hrb
        exact (hrb2.left).same (fun g' o' he _ => N g' (fun e => by injection he with he; injection he with e1 _; exact h1.lay.nb (e ▸ e1.symm)))
      · exact h1.new C3 (h1.c.set2 4095) ⟨L, hL.same (N bb h1.lay.nb.symm), hL1⟩ (by simp) (K.same h1.u fun k hk => N k (fun e => h1.lay.np (e ▸ hk))) (fun e => absurd (h1.end_ e).2 (by simp))
    · have hb' : ((b.toNat : Int) == 13) = false := by
        rw [beq_eq_false_iff_ne]; exact fun e => hb ((byte_eq_iff b 13).1 e)
      go_simp
      go_wp2
      go_ret3
      obtain ⟨hor, hrb, h1, hC⟩ := hK1.out
      obtain ⟨hlt, h10, htb, htl⟩ := HL.out
      refine ⟨some ⟨bb, 0, none⟩, 4096, t ++ [b], true, .nil, [], U1, 4096, z1, lb1, lr1, ?_, ?_, ?_, by omega, ?_, (fun e => (by cases e)), (fun a e => (by cases e; exact ⟨⟨rfl, fun _ => (by show 0 + (t ++ [b]).length ≤ 4096; simp; omega)⟩, rfl⟩)), h1, hC⟩
      · rw [← htb, hlen]; rfl
      · have hh := LineSays.more t b hlt h10 htb hb
        rw [HR.out] at hh
        exact hh
      · rw [← htb, hlen]; exact Nat.le_refl _
      · rw [← htb]; exact hrb
end Go.Proofs.YtfnkkjehkegpgaaDoor
