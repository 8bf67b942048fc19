/- The walk of ReadDotLines: the lines of a block, call by call. -/
import Derived.Test.YteiiocibldpioaaDoorLinesW
namespace Go.Proofs.YteiiocibldpioaaDoor
open Go.RowKit

/-- A line without a dot at its beginning. -/
def undot : List UInt8 → List UInt8
  | [] => []
  | c :: t => if c = 46 then t else c :: t
/-- What ReadDotLines gives of a stream. -/
inductive DotLinesSays : List UInt8 → List (List UInt8) → Er → List UInt8 → Prop
  | cut {S l R : List UInt8} {er : Er} : TSays S l er R → er ≠ .nil → DotLinesSays S [] (.sent 2) R
  | stop {S R : List UInt8} : TSays S [46] .nil R → DotLinesSays S [] .nil R
  | go {S l R R' : List UInt8} {ls : List (List UInt8)} {er : Er} : TSays S l .nil R → l ≠ [46] → DotLinesSays R ls er R' → DotLinesSays S (undot l :: ls) er R'
/-- What ReadDotLines leaves. -/
def TDotLines (K : Und) (base : Nat) (E : Nat → Addr) (gs : List Nat) (t p bb : Nat) (buf : Value) (S : List UInt8) (w : World) (e : Ending) (w' : World) : Prop :=
  ∃ (ls : List (List UInt8)) (A : Option Addr) (c : Nat) (er : Er) (S' : List UInt8), e = .returned (.tuple #[.slice A ls.length c, er.val E]) ∧ DotLinesSays S ls er S' ∧ er.in gs ∧ SL w' A ls ∧ ls.length ≤ S.length ∧ Tp K base E gs t p bb buf w' S' ∧ Below base w w' ∧ (∀ g o, A = some ⟨g, o, none⟩ → ¬ Rd.S K p bb g)
/-- The loop's relation. -/
def DotLRel (K : Und) (base : Nat) (E : Nat → Addr) (gs : List Nat) (t p bb : Nat) (buf : Value) (M : Nat) (S : List UInt8) (w : World) (k : Nat) (u v : Value) (wr : World) : Prop :=
  ∃ (acc : List (List UInt8)) (S1 : List UInt8), v = .nilIface ∧ OS wr M u acc ∧ Tp K base E gs t p bb buf wr S1 ∧ S1.length + 1 ≤ k ∧ (∀ ls er R, DotLinesSays S1 ls er R → DotLinesSays S (acc ++ ls) er R) ∧ acc.length + S1.length ≤ S.length ∧ Below base w wr ∧ M ≤ wr.heap.size
set_option maxRecDepth 200000 in
set_option maxHeartbeats 2000000 in
theorem readDotLines_any {K : Und} (hK : FillOK K) {base t p bb : Nat} {E : Nat → Addr} {gs : List Nat} {w : World} {S : List UInt8} {buf : Value} (h : Tp K base E gs t p bb buf w S) (hg : 1 ∈ gs) (hk : 2 ∈ gs) (hf : 5 ∈ gs) (hS : S.length ≤ 4398046511104) :
    Calls Tryd.prog 53 #[.pointer (some ⟨t, 0, none⟩)] w (TDotLines K base E gs t p bb buf S w) := by
  have H1 := Lib.hid h
  clear h
  go_enter Tryd.func53, Tryd.ntmps53
  go_wp2
  go_loopg [4, 5, 6] (S.length + 1) (fun k u4 u5 _ wr => DotLRel K base E gs t p bb buf w.heap.size S w k u4 u5 wr)
  case atStart => exact ⟨[], S, rfl, OS.nil _ _, H1.out, Nat.le_refl _, fun ls er R h => h, by simp, Below.refl _ _, Nat.le_refl _⟩
  case round =>
    obtain ⟨acc, S1, rfl, hown, hT, hgk, hcont, hsz, hb, hM⟩ := hrel
    obtain ⟨A0, c0, hu0, _, _, _⟩ := hown.form
    subst hu0
    have hrl := tReadLine hK hT hg hf (by omega)
    have HD := Lib.hid hrl
    have HK := Lib.hid (And.intro hown (And.intro hT (And.intro hgk (And.intro hcont (And.intro hsz (And.intro hb hM))))))
    clear hrl hown hT hgk hcont hsz hb hM
    go_wp2_with (go_at_call 50; refine HD.out.mono ?_; rintro e w2 ⟨l, er, S2, rfl, hsay, hT2, hC2⟩; have H2 := Lib.hid (And.intro hsay (And.intro hT2 hC2)); clear hT2 hC2; rcases hsay.er with rfl | rfl <;> clear hsay <;> refine Hid.out ?_)
    · refine Lib.hid ?_
      simp only [Er.val]
      obtain ⟨hown, hT, hgk, hcont, hsz, hb, hM⟩ := HK.out
      obtain ⟨hsay, hT2, hC2⟩ := H2.out
      have hlt := hsay.lt rfl
      have hown2 : OS w2 w.heap.size (.slice A0 acc.length c0) acc := hown.of_blocks (fun k hk hkl => hC2.block k hkl (fun e => by have := (hown.lt k hk).1; have := H1.out.S_lt k e; omega))
      have hM2 : w.heap.size ≤ w2.heap.size := Nat.le_trans hM hC2.size
      have hal : (acc.length + 1) * 16 ≤ 140737488355328 := by omega
      have hfin : ∀ (A3 : Option Addr) (c3 : Nat) (w3 : World), l ≠ [46] → AppendedS (w2.alloc (.cells #[.string ⟨(undot l).toArray⟩] 9)) w3 w.heap.size (.slice A0 acc.length c0) A3 (acc.length + 1) c3 (acc ++ [undot l]) → DotLRel K base E gs t p bb buf w.heap.size S w (S2.length + 1) (.slice A3 (acc.length + 1) c3) .nilIface w3 := fun A3 c3 w3 hne hap => by
        have hb3 : Below w.heap.size w2 w3 := ((Below.refl _ _).alloc hM2 _).trans (hap.below (hown2.alloc _) (by simp; omega))
        refine ⟨acc ++ [undot l], S2, rfl, hap.own, hT2.belowN hb3 (fun k hk => H1.out.S_lt k hk) H1.out.t_lt, Nat.le_refl _, fun ls er R h => ?_, ?_, (hb.trans (hT.frame hC2)).trans (hb3.mono H1.out.size), ?_⟩
        · have := hcont _ _ _ (.go hsay hne h)
          rwa [List.append_assoc]
        · simp; omega
        · have := hb3.size; omega
      have hend : l = [46] → TDotLines K base E gs t p bb buf S w (.returned (.tuple #[.slice A0 acc.length c0, .nilIface])) w2 := fun he => by
        subst he
        obtain ⟨A4, c4, h4, _, _, hsl⟩ := hown2.form
        injection h4 with h4 _ _
        subst h4
        have := hcont _ _ _ (.stop hsay)
        rw [List.append_nil] at this
        exact ⟨acc, A0, c0, .nil, S2, rfl, this, trivial, hsl, by omega, hT2, hb.trans (hT.frame hC2), fun g o e hs => by have h1 := (hown2.lt g (by rw [e]; rfl)).1; have := H1.out.S_lt g hs; omega⟩
      have HA := Lib.hid (And.intro hown2 (And.intro hM2 (And.intro hlt hal)))
      have HF := Lib.hid hfin
      have HE := Lib.hid hend
      clear hown hT hgk hcont hsz hb hM hsay hT2 hC2 hlt hown2 hM2 hal hfin hend
      rcases l with _ | ⟨x, tl⟩
      · go_wp2_with ((with_reducible refine at_appendS ?_); refine wpList_append_S rfl (.tmp 31) (.tmp 33) 28 Tryd.underlying28 rfl w.heap.size (.slice A0 acc.length c0) acc rfl (HA.out.1.alloc _) (some ⟨w2.heap.size, 0, none⟩) [[]] 1 1 rfl rfl (SL.one' _ _ _ _ rfl) HA.out.2.2.2 (by simp; have := HA.out.2.1; omega) (acc.length + 1) rfl (acc ++ [[]]) rfl ?_; intro A3 c3 w3 hap; have HP := Lib.hid hap; clear hap)
        go_roundg (S2.length + 1)
        case measure => have := HA.out.2.2.1; have := HK.out.2.2.1; omega
        case rel => exact HF.out A3 c3 w3 (by simp) HP.out
      · by_cases hx : x = 46
        · subst hx
          rcases tl with _ | ⟨y, tl⟩
          · go_wp2
            go_ret2
            exact HE.out (by trivial)
          · have hu : undot (46 :: y :: tl) = y :: tl := rfl
            rw [hu] at HF
            have hne : (46 :: y :: tl : List UInt8) ≠ [46] := by simp
            have hln : (46 :: y :: tl).length ≤ 4398046511104 := by have := HA.out.2.2.1; have := HK.out.2.2.2.2.1; omega
            have hml : 0 < (y :: tl).length := by simp
            generalize y :: tl = m at *
            rw [List.length_cons] at hln
            have hm1 : ((m.length : Int) + 1 == 1) = false := by rw [beq_eq_false_iff_ne]; omega
            have hm2 : (m.length : Int) + 1 ≤ 9223372036854775807 := by omega
            have HN := Lib.hid hne
            clear hu hln hne hml
            go_wp2_with ((with_reducible refine at_appendS ?_); refine wpList_append_S rfl (.tmp 31) (.tmp 33) 28 Tryd.underlying28 rfl w.heap.size (.slice A0 acc.length c0) acc rfl (HA.out.1.alloc _) (some ⟨w2.heap.size, 0, none⟩) [m] 1 1 rfl rfl (SL.one' _ _ _ _ rfl) HA.out.2.2.2 (by simp; have := HA.out.2.1; omega) (acc.length + 1) rfl (acc ++ [m]) rfl ?_; intro A3 c3 w3 hap; have HP := Lib.hid hap; clear hap)
            go_roundg (S2.length + 1)
            case measure => have := HA.out.2.2.1; have := HK.out.2.2.1; omega
            case rel => exact HF.out A3 c3 w3 HN.out HP.out
        · have hu : undot (x :: tl) = x :: tl := by simp [undot, hx]
          rw [hu] at HF
          have hxi : ((x.toNat : Int) == 46) = false := by rw [beq_eq_false_iff_ne]; exact fun e => hx ((byte_eq_iff x 46).1 e)
          have hln : (x :: tl).length ≤ 4398046511104 := by have := HA.out.2.2.1; have := HK.out.2.2.2.2.1; omega
          have hln2 : (tl.length : Int) + 1 ≤ 4398046511104 := by simp at hln; omega
          clear hu hln
          go_wp2_with ((with_reducible refine at_appendS ?_); refine wpList_append_S rfl (.tmp 31) (.tmp 33) 28 Tryd.underlying28 rfl w.heap.size (.slice A0 acc.length c0) acc rfl (HA.out.1.alloc _) (some ⟨w2.heap.size, 0, none⟩) [x :: tl] 1 1 rfl rfl (SL.one' _ _ _ _ rfl) HA.out.2.2.2 (by simp; have := HA.out.2.1; omega) (acc.length + 1) rfl (acc ++ [x :: tl]) rfl ?_; intro A3 c3 w3 hap; have HP := Lib.hid hap; clear hap)
          go_roundg (S2.length + 1)
          case measure => have := HA.out.2.2.1; have := HK.out.2.2.1; omega
          case rel => exact HF.out A3 c3 w3 (by simp [hx]) HP.out
    · refine Lib.hid ?_
      have hE := (H2.out.2.1.sens.s.sen _ hg).cell
      have hU := (H2.out.2.1.sens.s.sen _ hk).cell
      have h0 := fun w => es_same E 1 w
      simp only [Er.val]
      go_wp2
      go_ret2
      obtain ⟨hown, hT, hgk, hcont, hsz, hb, hM⟩ := HK.out
      obtain ⟨hsay, hT2, hC2⟩ := H2.out
      have hown2 : OS w2 w.heap.size (.slice A0 acc.length c0) acc := hown.of_blocks (fun k hk hkl => hC2.block k hkl (fun e => by have := (hown.lt k hk).1; have := H1.out.S_lt k e; omega))
      obtain ⟨A4, c4, h4, _, _, hsl⟩ := hown2.form
      injection h4 with h4 _ _
      subst h4
      have := hcont _ _ _ (.cut hsay (fun e => by cases e))
      rw [List.append_nil] at this
      exact ⟨acc, A0, c0, .sent 2, S2, rfl, this, hk, hsl, by omega, hT2, hb.trans (hT.frame hC2), fun g o e hs => by have h1 := (hown2.lt g (by rw [e]; rfl)).1; have := H1.out.S_lt g hs; omega⟩
end Go.Proofs.YteiiocibldpioaaDoor
