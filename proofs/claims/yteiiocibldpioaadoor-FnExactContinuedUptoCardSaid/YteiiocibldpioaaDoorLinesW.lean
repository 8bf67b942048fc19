/- The walk of impl.Lines. -/
import Derived.Test.YteiiocibldpioaaDoorRdM
import Derived.Test.YteiiocibldpioaaDoorOwn
import Derived.Test.YteiiocibldpioaaDoorLnLaw
namespace Go.Proofs.YteiiocibldpioaaDoor
open Go.RowKit

/-- What impl.Lines leaves. -/
def LinesEnd (S : List UInt8) (w : World) (e : Ending) (w' : World) : Prop :=
  ∃ (ls : List (List UInt8)) (A : Option Addr) (c : Nat), e = .returned (.tuple #[.slice A ls.length c, .int .i64 1]) ∧ LinesSays S ls ∧ SL w' A ls ∧ ls.length ≤ S.length ∧ (∀ l ∈ ls, l.length ≤ S.length) ∧ Below w.heap.size w w'
/-- The loop's relation. -/
def LinesRel (K : Und) (base : Nat) (E : Nat → Addr) (gs : List Nat) (t p bb : Nat) (buf : Value) (M : Nat) (S : List UInt8) (w : World) (k : Nat) (u : Value) (wr : World) : Prop :=
  ∃ (acc : List (List UInt8)) (S1 : List UInt8), OS wr M u acc ∧ Tp K base E gs t p bb buf wr S1 ∧ S1.length + 1 ≤ k ∧ (∀ ls, LinesSays S1 ls → LinesSays S (acc ++ ls)) ∧ acc.length + S1.length ≤ S.length ∧ (∀ l ∈ acc, l.length ≤ S.length) ∧ Below base w wr ∧ M ≤ wr.heap.size
theorem Tp.S_lt {K : Und} {base t p bb : Nat} {E : Nat → Addr} {gs : List Nat} {buf : Value} {w : World} {S : List UInt8} (h : Tp K base E gs t p bb buf w S) : ∀ k, Rd.S K p bb k → k < w.heap.size := by
  obtain ⟨_, _, _, B, U, r, z, lb, lr, h, _⟩ := h
  exact h.S_lt
theorem Tp.t_lt {K : Und} {base t p bb : Nat} {E : Nat → Addr} {gs : List Nat} {buf : Value} {w : World} {S : List UInt8} (h : Tp K base E gs t p bb buf w S) : t < w.heap.size := h.2.2.1.lt
theorem Tp.belowN {K : Und} {base t p bb : Nat} {E : Nat → Addr} {gs : List Nat} {buf : Value} {w w' : World} {S : List UInt8} (h : Tp K base E gs t p bb buf w S) {N : Nat} (hb : Below N w w') (hN : ∀ k, Rd.S K p bb k → k < N) (ht : t < N) : Tp K base E gs t p bb buf w' S := by
  obtain ⟨h1, h2, h3, B, U, r, z, lb, lr, h4, h5⟩ := h
  exact ⟨h1, h2, h3.same (hb.block t ht), B, U, r, z, lb, lr, h4.below hb hN, h5⟩
set_option maxRecDepth 200000 in
set_option maxHeartbeats 1000000 in
theorem implLines_any {w : World} {E : Nat → Addr} {gs : List Nat} (hs : Sens w E gs) (hg : 1 ∈ gs) (hk : 2 ∈ gs) (hf : 5 ∈ gs) {A : Option Addr} {n c : Nat} {S : List UInt8} (hn : n = S.length) (hr : RB w A S) (hS : S.length ≤ 16777216) :
    Calls Tryd.prog 28 #[.slice A n c] w (LinesEnd S w) := by
  have hmk := reader_any (c := c) hs hn hr (by omega)
  have H := Lib.hid hmk
  clear hmk hr hs hn
  go_enter Tryd.func28, Tryd.ntmps28
  go_wp2_with (go_at_call 45; refine H.out.mono ?_; rintro e w1 ⟨q, sb, t, p, bb, rfl, hqs, hT1, hb1⟩; have H1 := Lib.hid (And.intro hqs (And.intro hT1 hb1)); clear hqs hT1 hb1)
  go_loopg [4, 6, 7] (S.length + 1) (fun k u4 _ _ wr => LinesRel (KB q sb) w.heap.size E gs t p bb (.slice none 0 0) w1.heap.size S w k u4 wr)
  case atStart =>
    obtain ⟨hqs, hT1, hb1⟩ := H1.out
    exact ⟨[], S, OS.nil _ _, hT1, Nat.le_refl _, fun ls h => h, by simp, fun l h => (by cases h), hb1, Nat.le_refl _⟩
  case round =>
    obtain ⟨acc, S1, hown, hT, hgk, hcont, hsz, hlen, hb, hM⟩ := hrel
    obtain ⟨A0, c0, hu0, _, _, _⟩ := hown.form
    subst hu0
    have hrl := tReadLine (fillB q sb H1.out.1) hT hg hf (by omega)
    have HD := Lib.hid hrl
    have HK := Lib.hid (And.intro hown (And.intro hT (And.intro hgk (And.intro hcont (And.intro hsz (And.intro hlen (And.intro hb hM)))))))
    clear hrl hown hT hgk hcont hsz hlen hb hM
    go_wp2_with (go_at_call 50; refine HD.out.mono ?_; rintro e w2 ⟨l, er, S2, rfl, hsay, hT2, hC2⟩; have H2 := Lib.hid (And.intro hsay (And.intro hT2 hC2)); clear hT2 hC2; rcases hsay.er with rfl | rfl <;> clear hsay <;> refine Hid.out ?_)
    · refine Lib.hid ?_
      simp only [Er.val]
      obtain ⟨hown, hT, hgk, hcont, hsz, hlen, hb, hM⟩ := HK.out
      obtain ⟨hsay, hT2, hC2⟩ := H2.out
      have hlt := hsay.lt rfl
      have hown2 : OS w2 w1.heap.size (.slice A0 acc.length c0) acc := hown.of_blocks (fun k hk hkl => hC2.block k hkl (fun e => by have := (hown.lt k hk).1; have := H1.out.2.1.S_lt k e; omega))
      have hM2 : w1.heap.size ≤ w2.heap.size := Nat.le_trans hM hC2.size
      have hal : (acc.length + 1) * 16 ≤ 140737488355328 := by omega
      have HA := Lib.hid (And.intro hown2 (And.intro hM2 (And.intro hlt hal)))
      clear hown hT hgk hcont hsz hlen hb hM hsay hT2 hC2 hlt hown2 hM2 hal
      go_wp2_with ((with_reducible refine at_appendS ?_); refine wpList_append_S rfl (.tmp 20) (.tmp 22) 28 Tryd.underlying28 rfl w1.heap.size (.slice A0 acc.length c0) acc rfl (HA.out.1.alloc _) (some ⟨w2.heap.size, 0, none⟩) [l] 1 1 rfl rfl (SL.one' _ _ _ _ rfl) HA.out.2.2.2 (by simp; have := HA.out.2.1; omega) (acc.length + 1) rfl (acc ++ [l]) rfl ?_; intro A3 c3 w3 hap; have HP := Lib.hid hap; clear hap)
      obtain ⟨hown, hT, hgk, hcont, hsz, hlen, hb, hM⟩ := HK.out
      obtain ⟨hsay, hT2, hC2⟩ := H2.out
      have hap := HP.out
      have hlt := HA.out.2.2.1
      have hb3 : Below w1.heap.size w2 w3 := ((Below.refl _ _).alloc HA.out.2.1 _).trans (hap.below (HA.out.1.alloc _) (by simp; have := HA.out.2.1; omega))
      go_roundg (S2.length + 1)
      case measure => omega
      case rel =>
        refine ⟨acc ++ [l], S2, hap.own, hT2.belowN hb3 (fun k hk => H1.out.2.1.S_lt k hk) H1.out.2.1.t_lt, Nat.le_refl _, fun ls h => ?_, ?_, fun x hx => ?_, (hb.trans (hT.frame hC2)).trans (hb3.mono H1.out.2.2.size), ?_⟩
        · have := hcont _ (.go hsay h)
          rwa [List.append_assoc]
        · simp; omega
        · rcases List.mem_append.1 hx with hx | hx
          · exact hlen x hx
          · simp at hx; subst hx; omega
        · have := hb3.size; have := HA.out.2.1; omega
    · refine Lib.hid ?_
      have hst := fun (w : World) (h : Sens w E gs) => state_any w h hg hk (.sent 1) hg
      have HS := Lib.hid hst
      clear hst
      simp only [Er.val]
      go_wp2_with (go_at_call 47; refine (HS.out _ H2.out.2.1.sens.s).mono ?_; rintro e w3 ⟨rfl, rfl⟩)
      go_ret2
      obtain ⟨hown, hT, hgk, hcont, hsz, hlen, hb, hM⟩ := HK.out
      obtain ⟨hsay, hT2, hC2⟩ := H2.out
      have hown2 : OS w2 w1.heap.size (.slice A0 acc.length c0) acc := hown.of_blocks (fun k hk hkl => hC2.block k hkl (fun e => by have := (hown.lt k hk).1; have := H1.out.2.1.S_lt k e; omega))
      obtain ⟨A4, c4, h4, _, _, hsl⟩ := hown2.form
      injection h4 with h4 _ _
      subst h4
      refine ⟨acc, A0, c0, rfl, ?_, hsl, by omega, hlen, hb.trans (hT.frame hC2)⟩
      have := hcont _ (.stop hsay (fun e => by cases e))
      rwa [List.append_nil] at this
end Go.Proofs.YteiiocibldpioaaDoor
