/- The walk of skipSpace. -/
import Derived.Test.YteiiocibldpioaaDoorRdX
import Derived.Test.YteiiocibldpioaaDoorRdY
import Derived.Test.YteiiocibldpioaaDoorRdI
namespace Go.Proofs.YteiiocibldpioaaDoor
open Go.RowKit

/-- A space or a tab. -/
def blank (c : UInt8) : Bool := c == 32 || c == 9
theorem blank_iff {c : UInt8} : blank c = true ↔ c = 32 ∨ c = 9 := by simp [blank]
theorem Tp.turn {K : Und} {base t p bb : Nat} {E : Nat → Addr} {gs : List Nat} {buf : Value} {w w' : World} {S S' : List UInt8} (h : Tp K base E gs t p bb buf w S) (hC : Chg (Rd.S K p bb) w w') (hR : Rs K base E gs p bb w' S') : Tp K base E gs t p bb buf w' S' :=
  ⟨h.1, h.2.1, h.2.2.1.same (hC.block t h.2.2.1.lt h.2.1), hR⟩
/-- The loop's relation. -/
def SkRel (K : Und) (base : Nat) (E : Nat → Addr) (gs : List Nat) (t p bb : Nat) (buf : Value) (S : List UInt8) (w : World) (gk : Nat) (u3 : Value) (wr : World) : Prop :=
  ∃ (pre S1 : List UInt8), u3 = .int .i64 pre.length ∧ S = pre ++ S1 ∧ (∀ c ∈ pre, blank c = true) ∧ Tp K base E gs t p bb buf wr S1 ∧ Chg (Rd.S K p bb) w wr ∧ S1.length < gk
theorem takeWhile_blank {pre S1 : List UInt8} (h : ∀ c ∈ pre, blank c = true) (h1 : ∀ c t, S1 = c :: t → blank c = false) : (pre ++ S1).takeWhile blank = pre ∧ (pre ++ S1).dropWhile blank = S1 := by
  induction pre with
  | nil =>
    cases S1 with
    | nil => exact ⟨rfl, rfl⟩
    | cons c t => simp [h1 c t rfl]
  | cons a l ih =>
    have ha := h a (List.mem_cons_self ..)
    obtain ⟨i1, i2⟩ := ih (fun c hc => h c (List.mem_cons_of_mem _ hc))
    simp [ha, i1, i2]
set_option maxRecDepth 200000 in
set_option maxHeartbeats 4000000 in
theorem skipSpace_any {K : Und} (hK : FillOK K) {base t p bb : Nat} {E : Nat → Addr} {gs : List Nat} {buf : Value} {w : World} {S : List UInt8} (h : Tp K base E gs t p bb buf w S) (hg : 1 ∈ gs) (hS : S.length ≤ 140737488355328) :
    Calls Tryd.prog 79 #[.pointer (some ⟨t, 0, none⟩)] w fun e w' => e = .returned (.int .i64 (S.takeWhile blank).length) ∧ Tp K base E gs t p bb buf w' (S.dropWhile blank) ∧ Chg (Rd.S K p bb) w w' := by
  have H := Lib.hid h
  clear h
  go_enter Tryd.func79, Tryd.ntmps79
  go_wp2
  go_loopg [3, 4, 5] (S.length + 1) (fun gk u3 _ _ wr => SkRel K base E gs t p bb buf S w gk u3 wr)
  case atStart => exact ⟨[], S, rfl, rfl, (fun _ h => by cases h), H.out, Chg.refl _ _, Nat.lt_succ_self _⟩
  case round =>
    obtain ⟨pre, S1, rfl, hSe, hpre, hT, hC, hgk⟩ := hrel
    have t0 : wr.cell? ⟨t, 0, none⟩ = some (.pointer (some ⟨p, 0, none⟩)) := hT.2.2.1.c0
    have hrb := readByte_any hK hT.2.2.2 hg
    have hpl : pre.length ≤ 140737488355328 := by rw [hSe, List.length_append] at hS; omega
    have HD := Lib.hid hrb
    have HK := Lib.hid (And.intro hSe (And.intro hpre (And.intro hT (And.intro hC hgk))))
    clear hrb hSe hpre hT hC hgk
    go_wp2_with (go_at_call 82; refine HD.out.mono ?_; rintro e w2 (⟨cc, S2, B2, U2, r2, z2, hS1, rfl, hR2, hBU, hC2⟩ | ⟨hS1, rfl, hR2, hC2⟩) <;> refine Hid.out ?_)
    · have t1 : w2.cell? ⟨t, 0, none⟩ = some (.pointer (some ⟨p, 0, none⟩)) := (World.cell?_of_block (w := wr) (a := ⟨t, 0, none⟩) (hC2.block t HK.out.2.2.1.2.2.1.lt HK.out.2.2.1.2.1)).trans t0
      have HS := Lib.hid (And.intro hS1 (And.intro hR2 (And.intro hBU hC2)))
      clear hS1 hR2 hBU hC2
      refine Lib.hid ?_
      by_cases hb : cc = 32 ∨ cc = 9
      · have hfin : SkRel K base E gs t p bb buf S w (S2.length + 1) (.int .i64 ((pre.length : Int) + 1)) w2 := by
          obtain ⟨hS1, hR2, hBU, hC2⟩ := HS.out
          obtain ⟨hSe, hpre, hT, hC, hgk⟩ := HK.out
          refine ⟨pre ++ [cc], S2, by rw [List.length_append]; rfl, by rw [hSe, hS1]; simp, fun c hc => ?_, hT.turn hC2 ⟨B2, U2, _, z2, _, _, hR2, hBU⟩, hC.trans hC2, Nat.lt_succ_self _⟩
          rcases List.mem_append.1 hc with h | h
          · exact hpre c h
          · rw [List.mem_singleton] at h; subst h; exact blank_iff.2 hb
        have HF := Lib.hid hfin
        have hms : S2.length + 1 < gk := by
          have := HK.out.2.2.2.2
          rw [HS.out.1, List.length_cons] at this
          exact this
        clear hfin
        rcases hb with rfl | rfl
        all_goals
          go_wp2
          go_roundg (S2.length + 1)
          case measure => omega
          case rel => exact HF.out
      · have n32 : ((cc.toNat : Int) == 32) = false := by rw [beq_eq_false_iff_ne]; exact fun e => hb (.inl ((byte_eq_iff cc 32).1 e))
        have n9 : ((cc.toNat : Int) == 9) = false := by rw [beq_eq_false_iff_ne]; exact fun e => hb (.inr ((byte_eq_iff cc 9).1 e))
        have m32 : ((cc.toNat : Int) != 32) = true := by simp [bne, n32]
        have m9 : ((cc.toNat : Int) != 9) = true := by simp [bne, n9]
        have k32 : ¬ (cc.toNat : Int) = 32 := fun e => by rw [e] at n32; cases n32
        have k9 : ¬ (cc.toNat : Int) = 9 := fun e => by rw [e] at n9; cases n9
        have hbf : blank cc = false := by rw [Bool.eq_false_iff]; exact fun e => hb (blank_iff.1 e)
        have HB := Lib.hid hbf
        clear hb hbf
        go_wp2_with (go_at_call 83; refine (unreadByte_any HS.out.2.1).mono ?_; rintro e w3 ⟨rfl, hR3, hC3⟩; have H3 := Lib.hid (And.intro hR3 hC3); clear hR3 hC3)
        go_ret
        obtain ⟨hS1, hR2, hBU, hC2⟩ := HS.out
        obtain ⟨hSe, hpre, hT, hC, hgk⟩ := HK.out
        obtain ⟨hR3, hC3⟩ := H3.out
        obtain ⟨e1, e2⟩ := takeWhile_blank hpre (S1 := S1) (fun c u hcu => by rw [hS1] at hcu; injection hcu with h1 _; subst h1; exact HB.out)
        rw [hSe, e1, e2]
        refine ⟨rfl, hT.turn (hC2.trans hC3) ⟨cc :: B2, U2, r2, z2, _, _, hR3, ?_⟩, hC.trans (hC2.trans hC3)⟩
        rw [hS1, List.cons_append, hBU]
    · have HS := Lib.hid (And.intro hS1 (And.intro hR2 hC2))
      clear hS1 hR2 hC2
      refine Lib.hid ?_
      simp only [Er.val]
      go_wp2
      go_ret
      obtain ⟨hS1, hR2, hC2⟩ := HS.out
      obtain ⟨hSe, hpre, hT, hC, hgk⟩ := HK.out
      obtain ⟨e1, e2⟩ := takeWhile_blank hpre (S1 := S1) (fun c u hcu => by rw [hS1] at hcu; cases hcu)
      rw [hSe, e1, e2, hS1]
      exact ⟨rfl, hT.turn hC2 hR2, hC.trans hC2⟩
end Go.Proofs.YteiiocibldpioaaDoor
