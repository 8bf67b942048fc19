/- FnDotBoth: the law's walk. -/
import Derived.Test.YteiiocibldpioaaDoorDotB
import Derived.Test.YteiiocibldpioaaDoorSpecP
import Derived.IntWalk
import Derived.Deep.RegionHeld3
namespace Go.Proofs.YteiiocibldpioaaDoor
open Go.RowKit

/-- What both say of whole lines. -/
theorem both_says {S R1 R2 X : List UInt8} {ls : List (List UInt8)} {er1 er2 : Er} (hp : PairedP S) (hr : ReturnedP S) (hl : S.getLast? = some 10) (h1 : DotLinesSays S ls er1 R1) (h2 : DotBytesSays S X er2 R2) :
    (er1 = .nil ∧ er2 = .nil ∧ X = feeds ls ∧ R2 = R1 ∧ S.length ≤ R1.length + (2 * X.length + 3)) ∨ (er1 = .sent 2 ∧ er2 = .sent 2 ∧ R1 = [] ∧ R2 = []) := by
  obtain ⟨cs, hS, hc⟩ := crlf_of S hp hr (fun _ => hl)
  rw [hS] at h1
  rcases h1.both hc with ⟨e1, e2, e3⟩ | ⟨e1, e2, e3⟩
  · rw [← hS] at e2 e3
    rcases h2 with ⟨k1, k2⟩ | ⟨_, _, k2⟩
    · rw [k2] at e2
      injection e2 with e4 e5
      injection e5 with _ e5
      exact .inl ⟨e1, k1, e4, e5, by rw [e4]; exact e3⟩
    · rw [k2] at e2
      injection e2 with _ e5
      injection e5 with e5 _
      cases e5
  · rw [← hS] at e3
    rcases h2 with ⟨_, k2⟩ | ⟨k1, k3, _⟩
    · rw [k2] at e3
      injection e3 with e5 _
      cases e5
    · exact .inr ⟨e1, k1, e2, k3⟩
theorem wpAnyH_weaken {P : Program} {md : Region.Mode} {ops : Array Oper} {Q : Exit → Act → World → Prop} {S S2 : World → Prop} (hs : ∀ w, S2 w → S w) : ∀ (fuel : Nat) (listed : Array Bool) (a : Act) (w : World), wpAnyH P md ops Q S2 fuel listed a w → wpAnyH P md ops Q S fuel listed a w
  | 0, _, _, _, h => h
  | fuel + 1, _, _, _, h => ⟨h.1, fun i hi => wpOp_mono (fun a' w' h' => ⟨hs w' h'.1, wpAnyH_weaken hs fuel _ a' w' h'.2⟩) (h.2 i hi)⟩
set_option maxRecDepth 200000 in
set_option maxHeartbeats 6400000 in
theorem lawDotBoth (E : Nat → Addr) (gs : List Nat) (A : Option Addr) (n c : Nat) (S : List UInt8) (hn : n = S.length) (hc : S.length ≤ c) (w : World) (hr : RB w A S) (hs : Sens w E gs)
    (hg : 1 ∈ gs) (hk : 2 ∈ gs) (hf : 5 ∈ gs) :
    Calls Tryd.prog 12 #[.slice A n c] w fun e w' => e = .returned (.bool true) ∧ Below w.heap.size w w' := by
  subst hn
  by_cases h24 : S.length ≤ 16777216
  · by_cases h0 : S.length = 0
    · obtain rfl : S = [] := List.eq_nil_of_length_eq_zero h0
      clear hr hs h0
      go_enter Tryd.func12, Tryd.ntmps12
      go_wp2
      go_ret
      exact ⟨rfl, Below.refl _ _⟩
    · obtain ⟨m, hm⟩ : ∃ m, S.length = m + 1 := ⟨S.length - 1, by omega⟩
      obtain ⟨b, hb⟩ : ∃ b, S[m]? = some b := ⟨_, List.getElem?_eq_getElem (by omega)⟩
      have hlast : S.getLast? = some b := by rw [List.getLast?_eq_getElem?, hm]; exact hb
      obtain ⟨g, o, hA, hx⟩ := hr (by rintro rfl; simp at h0)
      have hcell := hx m b hb
      have hpp := specPaired_any (c := c) hr rfl (by omega)
      have hrr := specReturned_any (c := c) hr rfl (by omega)
      obtain ⟨b3, hb3⟩ : ∃ b3, b3 = pairedB S := ⟨_, rfl⟩
      obtain ⟨b4, hb4⟩ : ∃ b4, b4 = returnedB S := ⟨_, rfl⟩
      rw [← hb3] at hpp
      rw [← hb4] at hrr
      have hmi : (S.length : Int) - 1 = (m : Int) := by omega
      have hmi2 : ((S.length : Int) == 0) = false := by rw [beq_eq_false_iff_ne]; omega
      have hmn : m < S.length := by omega
      have H := Lib.hid (And.intro hpp hrr)
      have HB := Lib.hid (And.intro hb3 (And.intro hb4 hlast))
      have HR := Lib.hid (And.intro hr hs)
      subst hA
      clear hpp hrr hb3 hb4 hlast hr hs hb h0 hx hm
      by_cases hgo : b = 10 ∧ b3 = true ∧ b4 = true
      · obtain ⟨rfl, rfl, rfl⟩ := hgo
        have hp := pairedB_iff HB.out.1.symm
        have hq := returnedB_iff HB.out.2.1.symm
        have hil := implDotLines_any (c := c) HR.out.2 hg hk hf rfl HR.out.1 (by omega)
        have hid := fun (w1 : World) (h1 : Below w.heap.size w w1) => implDot_any (c := c) (HR.out.2.below h1) hg hk rfl (HR.out.1.below h1) (by omega)
        have hfx := fun (w1 : World) (A1 : Option Addr) (c1 : Nat) (ls : List (List UInt8)) (h1 : SL w1 A1 ls) (h2 : (feeds ls).length ≤ 17592186044416) (h3 : ls.length ≤ 17592186044416) => specFeeds_any (c := c1) h1 rfl h2 h3
        have hlw := fun {R1 R2 X ls er1 er2} (h1 : DotLinesSays S ls er1 R1) (h2 : DotBytesSays S X er2 R2) => both_says hp hq HB.out.2.2 h1 h2
        have HI := Lib.hid (And.intro hil (And.intro hid hfx))
        have HL := Lib.hid (fun R1 R2 X ls er1 er2 (h1 : DotLinesSays S ls er1 R1) (h2 : DotBytesSays S X er2 R2) => And.intro (hlw h1 h2) (And.intro h2.out_le (And.intro h1.rest_le h2.rest_le)))
        clear hp hq hil hid hfx hlw
        go_enter Tryd.func12, Tryd.ntmps12
        go_wp2_with (first
          | (go_at_call 37; refine H.out.1.mono ?_; rintro e w' ⟨rfl, rfl⟩)
          | (go_at_call 38; refine H.out.2.mono ?_; rintro e w' ⟨rfl, rfl⟩)
          | (go_at_call 31; refine HI.out.1.mono ?_; rintro e w1 ⟨ls, A1, c1, er1, R1, A2, c2, rfl, hsay1, hsl, hlen, hrb1, hb1⟩; have H1 := Lib.hid (And.intro hsay1 (And.intro hsl (And.intro hlen (And.intro hrb1 hb1)))); clear hsay1 hsl hlen hrb1 hb1)
          | (go_at_call 26; refine (HI.out.2.1 _ H1.out.2.2.2.2).mono ?_; rintro e w2 ⟨X, A3, c3, er2, R2, A4, c4, rfl, hsay2, hrb3, hrb4, hb2⟩; have H2 := Lib.hid (And.intro hsay2 (And.intro hrb3 (And.intro hrb4 hb2))); clear hsay2 hrb3 hrb4 hb2; refine Hid.out ?_))
        obtain ⟨hcs, ho1, ho2, ho3⟩ := HL.out _ _ _ _ _ _ H1.out.1 H2.out.1
        have hB : Below w.heap.size w w2 := H1.out.2.2.2.2.trans (H2.out.2.2.2.mono H1.out.2.2.2.2.size)
        rcases hcs with ⟨rfl, rfl, rfl, rfl, hle⟩ | ⟨rfl, rfl, rfl, rfl⟩
        · refine Lib.hid ?_
          simp only [Er.num]
          have hll := H1.out.2.2.1
          have hsl2 : SL w2.drew A1 ls := (H1.out.2.1.below (H2.out.2.2.2.mono (Nat.le_refl _))).below ((Below.refl _ _).drew)
          have hfs := HI.out.2.2 _ A1 c1 ls hsl2 (by omega) (by omega)
          have t1 := run_toStringR (n := R2.length) (c := c2) rfl (H1.out.2.2.2.1.below H2.out.2.2.2)
          have t2 := run_toStringR (n := R2.length) (c := c4) rfl H2.out.2.2.1
          have HBB := Lib.hid (And.intro hB (And.intro hfs H2.out.2.1))
          clear hB hsl2 hfs HI HL H1 H2
          generalize feeds ls = X at *
          go_wp2
          clear t1 t2 HB HR hcell hmi hmi2 hmn hc hg hk hf H
          have s1 := run_toStringR (n := X.length) (c := c3) rfl (HBB.out.2.2.drewN 1)
          replace s1 : (convert 24 9 (.slice A3 X.length c3)).run Tryd.prog w2.drew = .ok (.string ⟨X.toArray⟩) w2.drew := s1
          have hi0 : (S.length : Int) - (R2.length : Int) ≤ 2 * (X.length : Int) + 3 := by omega
          have hi1 : IntKind.i64.wrap ((S.length : Int) - (R2.length : Int)) = (S.length : Int) - (R2.length : Int) := IntWalk.i64_in _ (by omega)
          have hi2 : IntKind.i64.wrap (2 * (X.length : Int)) = 2 * (X.length : Int) := IntWalk.i64_in _ (by omega)
          have hi3 : IntKind.i64.wrap (2 * (X.length : Int) + 3) = 2 * (X.length : Int) + 3 := IntWalk.i64_in _ (by omega)
          refine wp_region_held_drew (S := fun wx => (convert 24 9 (.slice A3 X.length c3)).run Tryd.prog wx = .ok (.string ⟨X.toArray⟩) wx) (by kernel_rfl) s1 (fun hHeld => ?_)
          refine wpAnyH_take (i := 0) (v := ?v0) rfl (by kernel_rfl) (by kernel_rfl) (by kernel_rfl) (fun _ _ _ h => h) (Or.inl ⟨by rfl, ?h0⟩) (by assumption) ?r0
          case h0 => (intro w hSw; (try dsimp only at hSw); go_simp; (try with_reducible rfl))
          (try simp only [List.getElem_toArray, List.getElem_cons_zero, Act.put, List.setIfInBounds_toArray, List.set_cons_zero, List.set_cons_succ])
          refine wpAnyH_take (i := 1) (v := ?v1) rfl (by kernel_rfl) (by kernel_rfl) (by kernel_rfl) (fun _ _ _ h => h) (Or.inl ⟨by rfl, ?h1⟩) (by assumption) ?r1
          case h1 => (intro w hSw; (try dsimp only at hSw); go_simp; (try with_reducible rfl))
          (try simp only [List.getElem_toArray, List.getElem_cons_succ, List.getElem_cons_zero, Act.put, List.setIfInBounds_toArray, List.set_cons_zero, List.set_cons_succ])
          refine wpAnyH_take (i := 2) (v := ?v2) rfl (by kernel_rfl) (by kernel_rfl) (by kernel_rfl) (fun _ _ _ h => h) (Or.inl ⟨by rfl, ?h2⟩) (by assumption) ?r2
          case h2 => (intro w hSw; (try dsimp only at hSw); go_simp; (try with_reducible rfl))
          (try simp only [List.getElem_toArray, List.getElem_cons_succ, List.getElem_cons_zero, Act.put, List.setIfInBounds_toArray, List.set_cons_zero, List.set_cons_succ])
          refine wpAnyH_take (i := 3) (v := ?v3) rfl (by kernel_rfl) (by kernel_rfl) (by kernel_rfl) (fun _ _ _ h => h) (Or.inl ⟨by rfl, ?h3⟩) (by assumption) ?r3
          case h3 => (intro w hSw; (try dsimp only at hSw); go_simp; (try with_reducible rfl))
          (try simp only [List.getElem_toArray, List.getElem_cons_succ, List.getElem_cons_zero, Act.put, List.setIfInBounds_toArray, List.set_cons_zero, List.set_cons_succ])
          refine wpAnyH_take (i := 6) (v := ?v6) rfl (by kernel_rfl) (by kernel_rfl) (by kernel_rfl) (fun _ _ _ h => h) (Or.inl ⟨by rfl, ?h6⟩) (by assumption) ?r6
          case h6 => (intro w hSw; (try dsimp only at hSw); go_simp; (try with_reducible rfl))
          (try simp only [List.getElem_toArray, List.getElem_cons_succ, List.getElem_cons_zero, Act.put, List.setIfInBounds_toArray, List.set_cons_zero, List.set_cons_succ])
          refine wpAnyH_take (i := 7) (v := ?v7) rfl (by kernel_rfl) (by kernel_rfl) (by kernel_rfl) (fun _ _ _ h => h) (Or.inl ⟨by rfl, ?h7⟩) (by assumption) ?r7
          case h7 => (intro w hSw; (try dsimp only at hSw); go_simp; (try with_reducible rfl))
          (try simp only [List.getElem_toArray, List.getElem_cons_succ, List.getElem_cons_zero, Act.put, List.setIfInBounds_toArray, List.set_cons_zero, List.set_cons_succ])
          refine wpAnyH_ready (rs := [4]) (by kernel_rfl) (by simp) ?_
          refine AllReadyH.cons rfl (fun K hK => ?_) AllReadyH.nil
          go_simp
          (go_at_call 24; refine HBB.out.2.1.mono ?_; rintro e w5 ⟨⟨A5, c5, rfl, ho5, hc5, hc5', hr5⟩, hb5⟩; have s4 := run_toStringR (n := X.length) (c := c5) rfl hr5; have s5 := run_toStringR (n := X.length) (c := c3) rfl ((HBB.out.2.2.drewN 1).below hb5); have H5 := Lib.hid hb5; clear ho5 hc5 hc5' hr5 hb5)
          refine hK.out _ _ s5 (fun _ => ?_)
          clear hK K
          (try simp only [List.getElem_toArray, List.getElem_cons_succ, List.getElem_cons_zero, Act.put, List.setIfInBounds_toArray, List.set_cons_zero, List.set_cons_succ])
          refine wpAnyH_weaken (S2 := fun wx => (convert 24 9 (.slice A3 X.length c3)).run Tryd.prog wx = .ok (.string ⟨X.toArray⟩) wx ∧ (convert 24 9 (.slice A5 X.length c5)).run Tryd.prog wx = .ok (.string ⟨X.toArray⟩) wx) (fun _ h => h.1) _ _ _ _ ?_
          have hS2 := And.intro s5 s4
          refine wpAnyH_take (i := 5) (v := ?v5) rfl (by kernel_rfl) (by kernel_rfl) (by kernel_rfl) (fun _ _ _ h => h) (Or.inl ⟨by rfl, ?h5⟩) (by assumption) ?r5
          case h5 => (intro w hSw; (try dsimp only at hSw); go_simp; (try with_reducible rfl))
          (try simp only [List.getElem_toArray, List.getElem_cons_succ, List.getElem_cons_zero, Act.put, List.setIfInBounds_toArray, List.set_cons_zero, List.set_cons_succ])
          refine wpAnyH_take (i := 8) (v := ?v8) rfl (by kernel_rfl) (by kernel_rfl) (by kernel_rfl) (fun _ _ _ h => h) (Or.inl ⟨by rfl, ?h8⟩) (by assumption) ?r8
          case h8 => (intro w hSw; (try dsimp only at hSw); go_simp; (try with_reducible rfl))
          (try simp only [List.getElem_toArray, List.getElem_cons_succ, List.getElem_cons_zero, Act.put, List.setIfInBounds_toArray, List.set_cons_zero, List.set_cons_succ])
          refine wpAnyH_take (i := 9) (v := ?v9) rfl (by kernel_rfl) (by kernel_rfl) (by kernel_rfl) (fun _ _ _ h => h) (Or.inl ⟨by rfl, ?h9⟩) (by assumption) ?r9
          case h9 => (intro w hSw; (try dsimp only at hSw); go_simp; (try with_reducible rfl))
          (try simp only [List.getElem_toArray, List.getElem_cons_succ, List.getElem_cons_zero, Act.put, List.setIfInBounds_toArray, List.set_cons_zero, List.set_cons_succ])
          refine wpAnyH_take (i := 10) (v := ?v10) rfl (by kernel_rfl) (by kernel_rfl) (by kernel_rfl) (fun _ _ _ h => h) (Or.inl ⟨by rfl, ?h10⟩) (by assumption) ?r10
          case h10 => (intro w hSw; (try dsimp only at hSw); go_simp; (try with_reducible rfl))
          (try simp only [List.getElem_toArray, List.getElem_cons_succ, List.getElem_cons_zero, Act.put, List.setIfInBounds_toArray, List.set_cons_zero, List.set_cons_succ])
          refine wpAnyH_take (i := 11) (v := ?v11) rfl (by kernel_rfl) (by kernel_rfl) (by kernel_rfl) (fun _ _ _ h => h) (Or.inl ⟨by rfl, ?h11⟩) (by assumption) ?r11
          case h11 => (intro w hSw; (try dsimp only at hSw); go_simp; (try with_reducible rfl))
          (try simp only [List.getElem_toArray, List.getElem_cons_succ, List.getElem_cons_zero, Act.put, List.setIfInBounds_toArray, List.set_cons_zero, List.set_cons_succ])
          refine wpAnyH_take (i := 12) (v := ?v12) rfl (by kernel_rfl) (by kernel_rfl) (by kernel_rfl) (fun _ _ _ h => h) (Or.inl ⟨by rfl, ?h12⟩) (by assumption) ?r12
          case h12 => (intro w hSw; (try dsimp only at hSw); go_simp; (try with_reducible rfl))
          (try simp only [List.getElem_toArray, List.getElem_cons_succ, List.getElem_cons_zero, Act.put, List.setIfInBounds_toArray, List.set_cons_zero, List.set_cons_succ])
          refine wpAnyH_take (i := 13) (v := ?v13) rfl (by kernel_rfl) (by kernel_rfl) (by kernel_rfl) (fun _ _ _ h => h) (Or.inl ⟨by rfl, ?h13⟩) (by assumption) ?r13
          case h13 => (intro w hSw; (try dsimp only at hSw); go_simp; (try with_reducible rfl))
          (try simp only [List.getElem_toArray, List.getElem_cons_succ, List.getElem_cons_zero, Act.put, List.setIfInBounds_toArray, List.set_cons_zero, List.set_cons_succ])
          refine wpAnyH_take (i := 14) (v := ?v14) rfl (by kernel_rfl) (by kernel_rfl) (by kernel_rfl) (fun _ _ _ h => h) (Or.inl ⟨by rfl, ?h14⟩) (by assumption) ?r14
          case h14 => (intro w hSw; (try dsimp only at hSw); go_simp; (try with_reducible rfl))
          (try simp only [List.getElem_toArray, List.getElem_cons_succ, List.getElem_cons_zero, Act.put, List.setIfInBounds_toArray, List.set_cons_zero, List.set_cons_succ])
          refine wpAnyH_take (i := 15) (v := ?v15) rfl (by kernel_rfl) (by kernel_rfl) (by kernel_rfl) (fun _ _ _ h => h) (Or.inl ⟨by rfl, ?h15⟩) (by assumption) ?r15
          case h15 => (intro w hSw; (try dsimp only at hSw); go_simp; (try with_reducible rfl))
          (try simp only [List.getElem_toArray, List.getElem_cons_succ, List.getElem_cons_zero, Act.put, List.setIfInBounds_toArray, List.set_cons_zero, List.set_cons_succ])
          refine wpAnyH_take (i := 16) (v := ?v16) rfl (by kernel_rfl) (by kernel_rfl) (by kernel_rfl) (fun _ _ _ h => h) (Or.inl ⟨by rfl, ?h16⟩) (by assumption) ?r16
          case h16 => (intro w hSw; (try dsimp only at hSw); go_simp; (try with_reducible rfl))
          (try simp only [List.getElem_toArray, List.getElem_cons_succ, List.getElem_cons_zero, Act.put, List.setIfInBounds_toArray, List.set_cons_zero, List.set_cons_succ])
          refine wpAnyH_take (i := 17) (v := ?v17) rfl (by kernel_rfl) (by kernel_rfl) (by kernel_rfl) (fun _ _ _ h => h) (Or.inl ⟨by rfl, ?h17⟩) (by assumption) ?r17
          case h17 => (intro w hSw; (try dsimp only at hSw); go_simp; (try with_reducible rfl))
          (try simp only [List.getElem_toArray, List.getElem_cons_succ, List.getElem_cons_zero, Act.put, List.setIfInBounds_toArray, List.set_cons_zero, List.set_cons_succ])
          refine wpAnyH_take (i := 18) (v := ?v18) rfl (by kernel_rfl) (by kernel_rfl) (by kernel_rfl) (fun _ _ _ h => h) (Or.inl ⟨by rfl, ?h18⟩) (by assumption) ?r18
          case h18 => (intro w hSw; (try dsimp only at hSw); go_simp; (try with_reducible rfl))
          (try simp only [List.getElem_toArray, List.getElem_cons_succ, List.getElem_cons_zero, Act.put, List.setIfInBounds_toArray, List.set_cons_zero, List.set_cons_succ])
          refine wpAnyH_take (i := 19) (v := ?v19) rfl (by kernel_rfl) (by kernel_rfl) (by kernel_rfl) (fun _ _ _ h => h) (Or.inl ⟨by rfl, ?h19⟩) (by assumption) ?r19
          case h19 => (intro w hSw; (try dsimp only at hSw); go_simp; (try with_reducible rfl))
          (try simp only [List.getElem_toArray, List.getElem_cons_succ, List.getElem_cons_zero, Act.put, List.setIfInBounds_toArray, List.set_cons_zero, List.set_cons_succ])
          refine wpAnyH_take (i := 20) (v := ?v20) rfl (by kernel_rfl) (by kernel_rfl) (by kernel_rfl) (fun _ _ _ h => h) (Or.inl ⟨by rfl, ?h20⟩) (by assumption) ?r20
          case h20 => (intro w hSw; (try dsimp only at hSw); go_simp; (try with_reducible rfl))
          (try simp only [List.getElem_toArray, List.getElem_cons_succ, List.getElem_cons_zero, Act.put, List.setIfInBounds_toArray, List.set_cons_zero, List.set_cons_succ])
          refine wpAnyH_take (i := 21) (v := ?v21) rfl (by kernel_rfl) (by kernel_rfl) (by kernel_rfl) (fun _ _ _ h => h) (Or.inl ⟨by rfl, ?h21⟩) (by assumption) ?r21
          case h21 => (intro w hSw; (try dsimp only at hSw); go_simp; (try with_reducible rfl))
          (try simp only [List.getElem_toArray, List.getElem_cons_succ, List.getElem_cons_zero, Act.put, List.setIfInBounds_toArray, List.set_cons_zero, List.set_cons_succ])
          refine wpAnyH_take (i := 22) (v := ?v22) rfl (by kernel_rfl) (by kernel_rfl) (by kernel_rfl) (fun _ _ _ h => h) (Or.inl ⟨by rfl, ?h22⟩) (by assumption) ?r22
          case h22 => (intro w hSw; (try dsimp only at hSw); go_simp; (try with_reducible rfl))
          (try simp only [List.getElem_toArray, List.getElem_cons_succ, List.getElem_cons_zero, Act.put, List.setIfInBounds_toArray, List.set_cons_zero, List.set_cons_succ])
          refine wpAnyH_done (by kernel_rfl) ?_ _
          go_wp2
          go_ret
          exact ⟨rfl, (HBB.out.1.drew).trans (H5.out.mono HBB.out.1.size)⟩
        · refine Lib.hid ?_
          simp only [Er.num]
          have t1 := run_toStringR (n := 0) (c := c2) (l := []) rfl (RB.nil w2 A2)
          have t2 := run_toStringR (n := 0) (c := c4) (l := []) rfl (RB.nil w2 A4)
          have HBB := Lib.hid hB
          clear hB ho1 ho2 ho3
          go_wp2
          refine wp_region_held_drew (S := fun _ => True) (by kernel_rfl) trivial (fun hHeld => ?_)
          refine wpAnyH_take (i := 0) (v := ?vb0) rfl (by kernel_rfl) (by kernel_rfl) (by kernel_rfl) (fun _ _ _ h => h) (Or.inl ⟨by rfl, ?hb0⟩) trivial ?rb0
          case hb0 => (intro w hSw; (try dsimp only at hSw); go_simp; (try with_reducible rfl))
          (try simp only [List.getElem_toArray, List.getElem_cons_zero, Act.put, List.setIfInBounds_toArray, List.set_cons_zero, List.set_cons_succ])
          refine wpAnyH_take (i := 1) (v := ?vb1) rfl (by kernel_rfl) (by kernel_rfl) (by kernel_rfl) (fun _ _ _ h => h) (Or.inl ⟨by rfl, ?hb1⟩) trivial ?rb1
          case hb1 => (intro w hSw; (try dsimp only at hSw); go_simp; (try with_reducible rfl))
          (try simp only [List.getElem_toArray, List.getElem_cons_succ, List.getElem_cons_zero, Act.put, List.setIfInBounds_toArray, List.set_cons_zero, List.set_cons_succ])
          refine wpAnyH_take (i := 2) (v := ?vb2) rfl (by kernel_rfl) (by kernel_rfl) (by kernel_rfl) (fun _ _ _ h => h) (Or.inl ⟨by rfl, ?hb2⟩) trivial ?rb2
          case hb2 => (intro w hSw; (try dsimp only at hSw); go_simp; (try with_reducible rfl))
          (try simp only [List.getElem_toArray, List.getElem_cons_succ, List.getElem_cons_zero, Act.put, List.setIfInBounds_toArray, List.set_cons_zero, List.set_cons_succ])
          refine wpAnyH_take (i := 3) (v := undef) rfl (by kernel_rfl) (by kernel_rfl) (by kernel_rfl) (fun _ _ _ h => h) (Or.inr ⟨by rfl, rfl⟩) trivial ?rb3
          (try simp only [List.getElem_toArray, List.getElem_cons_succ, List.getElem_cons_zero, Act.put, List.setIfInBounds_toArray, List.set_cons_zero, List.set_cons_succ])
          refine wpAnyH_take (i := 4) (v := undef) rfl (by kernel_rfl) (by kernel_rfl) (by kernel_rfl) (fun _ _ _ h => h) (Or.inr ⟨by rfl, rfl⟩) trivial ?rb4
          (try simp only [List.getElem_toArray, List.getElem_cons_succ, List.getElem_cons_zero, Act.put, List.setIfInBounds_toArray, List.set_cons_zero, List.set_cons_succ])
          refine wpAnyH_take (i := 5) (v := undef) rfl (by kernel_rfl) (by kernel_rfl) (by kernel_rfl) (fun _ _ _ h => h) (Or.inr ⟨by rfl, rfl⟩) trivial ?rb5
          (try simp only [List.getElem_toArray, List.getElem_cons_succ, List.getElem_cons_zero, Act.put, List.setIfInBounds_toArray, List.set_cons_zero, List.set_cons_succ])
          refine wpAnyH_take (i := 6) (v := undef) rfl (by kernel_rfl) (by kernel_rfl) (by kernel_rfl) (fun _ _ _ h => h) (Or.inr ⟨by rfl, rfl⟩) trivial ?rb6
          (try simp only [List.getElem_toArray, List.getElem_cons_succ, List.getElem_cons_zero, Act.put, List.setIfInBounds_toArray, List.set_cons_zero, List.set_cons_succ])
          refine wpAnyH_take (i := 7) (v := undef) rfl (by kernel_rfl) (by kernel_rfl) (by kernel_rfl) (fun _ _ _ h => h) (Or.inr ⟨by rfl, rfl⟩) trivial ?rb7
          (try simp only [List.getElem_toArray, List.getElem_cons_succ, List.getElem_cons_zero, Act.put, List.setIfInBounds_toArray, List.set_cons_zero, List.set_cons_succ])
          refine wpAnyH_take (i := 8) (v := undef) rfl (by kernel_rfl) (by kernel_rfl) (by kernel_rfl) (fun _ _ _ h => h) (Or.inr ⟨by rfl, rfl⟩) trivial ?rb8
          (try simp only [List.getElem_toArray, List.getElem_cons_succ, List.getElem_cons_zero, Act.put, List.setIfInBounds_toArray, List.set_cons_zero, List.set_cons_succ])
          refine wpAnyH_take (i := 9) (v := undef) rfl (by kernel_rfl) (by kernel_rfl) (by kernel_rfl) (fun _ _ _ h => h) (Or.inr ⟨by rfl, rfl⟩) trivial ?rb9
          (try simp only [List.getElem_toArray, List.getElem_cons_succ, List.getElem_cons_zero, Act.put, List.setIfInBounds_toArray, List.set_cons_zero, List.set_cons_succ])
          refine wpAnyH_take (i := 10) (v := undef) rfl (by kernel_rfl) (by kernel_rfl) (by kernel_rfl) (fun _ _ _ h => h) (Or.inr ⟨by rfl, rfl⟩) trivial ?rb10
          (try simp only [List.getElem_toArray, List.getElem_cons_succ, List.getElem_cons_zero, Act.put, List.setIfInBounds_toArray, List.set_cons_zero, List.set_cons_succ])
          refine wpAnyH_take (i := 11) (v := undef) rfl (by kernel_rfl) (by kernel_rfl) (by kernel_rfl) (fun _ _ _ h => h) (Or.inr ⟨by rfl, rfl⟩) trivial ?rb11
          (try simp only [List.getElem_toArray, List.getElem_cons_succ, List.getElem_cons_zero, Act.put, List.setIfInBounds_toArray, List.set_cons_zero, List.set_cons_succ])
          refine wpAnyH_take (i := 12) (v := undef) rfl (by kernel_rfl) (by kernel_rfl) (by kernel_rfl) (fun _ _ _ h => h) (Or.inr ⟨by rfl, rfl⟩) trivial ?rb12
          (try simp only [List.getElem_toArray, List.getElem_cons_succ, List.getElem_cons_zero, Act.put, List.setIfInBounds_toArray, List.set_cons_zero, List.set_cons_succ])
          refine wpAnyH_take (i := 13) (v := undef) rfl (by kernel_rfl) (by kernel_rfl) (by kernel_rfl) (fun _ _ _ h => h) (Or.inr ⟨by rfl, rfl⟩) trivial ?rb13
          (try simp only [List.getElem_toArray, List.getElem_cons_succ, List.getElem_cons_zero, Act.put, List.setIfInBounds_toArray, List.set_cons_zero, List.set_cons_succ])
          refine wpAnyH_take (i := 14) (v := undef) rfl (by kernel_rfl) (by kernel_rfl) (by kernel_rfl) (fun _ _ _ h => h) (Or.inr ⟨by rfl, rfl⟩) trivial ?rb14
          (try simp only [List.getElem_toArray, List.getElem_cons_succ, List.getElem_cons_zero, Act.put, List.setIfInBounds_toArray, List.set_cons_zero, List.set_cons_succ])
          refine wpAnyH_take (i := 15) (v := undef) rfl (by kernel_rfl) (by kernel_rfl) (by kernel_rfl) (fun _ _ _ h => h) (Or.inr ⟨by rfl, rfl⟩) trivial ?rb15
          (try simp only [List.getElem_toArray, List.getElem_cons_succ, List.getElem_cons_zero, Act.put, List.setIfInBounds_toArray, List.set_cons_zero, List.set_cons_succ])
          refine wpAnyH_take (i := 16) (v := undef) rfl (by kernel_rfl) (by kernel_rfl) (by kernel_rfl) (fun _ _ _ h => h) (Or.inr ⟨by rfl, rfl⟩) trivial ?rb16
          (try simp only [List.getElem_toArray, List.getElem_cons_succ, List.getElem_cons_zero, Act.put, List.setIfInBounds_toArray, List.set_cons_zero, List.set_cons_succ])
          refine wpAnyH_take (i := 17) (v := undef) rfl (by kernel_rfl) (by kernel_rfl) (by kernel_rfl) (fun _ _ _ h => h) (Or.inr ⟨by rfl, rfl⟩) trivial ?rb17
          (try simp only [List.getElem_toArray, List.getElem_cons_succ, List.getElem_cons_zero, Act.put, List.setIfInBounds_toArray, List.set_cons_zero, List.set_cons_succ])
          refine wpAnyH_take (i := 18) (v := undef) rfl (by kernel_rfl) (by kernel_rfl) (by kernel_rfl) (fun _ _ _ h => h) (Or.inr ⟨by rfl, rfl⟩) trivial ?rb18
          (try simp only [List.getElem_toArray, List.getElem_cons_succ, List.getElem_cons_zero, Act.put, List.setIfInBounds_toArray, List.set_cons_zero, List.set_cons_succ])
          refine wpAnyH_take (i := 19) (v := undef) rfl (by kernel_rfl) (by kernel_rfl) (by kernel_rfl) (fun _ _ _ h => h) (Or.inr ⟨by rfl, rfl⟩) trivial ?rb19
          (try simp only [List.getElem_toArray, List.getElem_cons_succ, List.getElem_cons_zero, Act.put, List.setIfInBounds_toArray, List.set_cons_zero, List.set_cons_succ])
          refine wpAnyH_take (i := 20) (v := undef) rfl (by kernel_rfl) (by kernel_rfl) (by kernel_rfl) (fun _ _ _ h => h) (Or.inr ⟨by rfl, rfl⟩) trivial ?rb20
          (try simp only [List.getElem_toArray, List.getElem_cons_succ, List.getElem_cons_zero, Act.put, List.setIfInBounds_toArray, List.set_cons_zero, List.set_cons_succ])
          refine wpAnyH_take (i := 21) (v := ?vb21) rfl (by kernel_rfl) (by kernel_rfl) (by kernel_rfl) (fun _ _ _ h => h) (Or.inl ⟨by rfl, ?hb21⟩) trivial ?rb21
          case hb21 => (intro w hSw; (try dsimp only at hSw); go_simp; (try with_reducible rfl))
          (try simp only [List.getElem_toArray, List.getElem_cons_succ, List.getElem_cons_zero, Act.put, List.setIfInBounds_toArray, List.set_cons_zero, List.set_cons_succ])
          refine wpAnyH_take (i := 22) (v := ?vb22) rfl (by kernel_rfl) (by kernel_rfl) (by kernel_rfl) (fun _ _ _ h => h) (Or.inl ⟨by rfl, ?hb22⟩) trivial ?rb22
          case hb22 => (intro w hSw; (try dsimp only at hSw); go_simp; (try with_reducible rfl))
          (try simp only [List.getElem_toArray, List.getElem_cons_succ, List.getElem_cons_zero, Act.put, List.setIfInBounds_toArray, List.set_cons_zero, List.set_cons_succ])
          refine wpAnyH_done (by kernel_rfl) ?_ _
          go_wp2
          go_ret
          exact ⟨rfl, HBB.out.drew⟩
      · rcases (show b ≠ 10 ∨ (b = 10 ∧ b3 = false) ∨ (b = 10 ∧ b3 = true ∧ b4 = false) by
          by_cases h1 : b = 10
          · cases b3
            · exact .inr (.inl ⟨h1, rfl⟩)
            · cases b4
              · exact .inr (.inr ⟨h1, rfl, rfl⟩)
              · exact absurd ⟨h1, rfl, rfl⟩ hgo
          · exact .inl h1) with h1 | ⟨rfl, rfl⟩ | ⟨rfl, rfl, rfl⟩
        · have h1b : ((b.toNat : Int) == 10) = false := byte_ne_iff (d := 10) h1
          have h1c : ((b.toNat : Int) != 10) = true := by simp [bne, h1b]
          have h1d : ¬ (b.toNat : Int) = 10 := fun e => by rw [e] at h1b; cases h1b
          clear hgo h1 HR
          go_enter Tryd.func12, Tryd.ntmps12
          go_wp2
          go_ret
          exact ⟨rfl, Below.refl _ _⟩
        all_goals
          clear hgo HR
          go_enter Tryd.func12, Tryd.ntmps12
          go_wp2_with (first
            | (go_at_call 37; refine H.out.1.mono ?_; rintro e w' ⟨rfl, rfl⟩)
            | (go_at_call 38; refine H.out.2.mono ?_; rintro e w' ⟨rfl, rfl⟩))
          go_ret
          exact ⟨rfl, Below.refl _ _⟩
  · clear hr hs
    rcases (show 2147483647 < S.length ∨ (S.length ≤ 2147483647 ∧ 16777216 < S.length) by omega) with h1 | ⟨h1, h2⟩
    all_goals
      go_enter Tryd.func12, Tryd.ntmps12
      go_wp2
      go_ret
      exact ⟨rfl, Below.refl _ _⟩
end Go.Proofs.YteiiocibldpioaaDoor
