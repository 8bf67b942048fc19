/- FnDotReads: the plain law, and the law's walk. -/
import Derived.Test.YteiiocibldpioaaDoorDotR
import Derived.Test.YteiiocibldpioaaDoorSpecF
import Derived.Test.YteiiocibldpioaaDoorDotN
namespace Go.Proofs.YteiiocibldpioaaDoor
open Go.RowKit

theorem ReadsSay.text {ls ss : List (List UInt8)} {zs : List Int} {er : Er} (h : ReadsSay (dotText ls) zs ss er) (hc : ∀ l ∈ ls, Clean l) :
    ∃ T, feeds ls = ss.flatten ++ T ∧ ((er = .nil ∧ ss.length = zs.length) ∨ (er = .sent 1 ∧ T = [])) := by
  obtain ⟨st, S', hd, hcase⟩ := h.out
  have ht := dots_text ls [] hc
  rw [List.append_nil, hd] at ht
  injection ht with h1 h2
  refine ⟨_, h1.symm, ?_⟩
  rcases hcase with ⟨e1, e2⟩ | ⟨e1, e2⟩ | ⟨e1, e2, e3⟩
  · exact .inl ⟨e1, e2⟩
  · exact .inr ⟨e1, by rw [e2, dots_end]⟩
  · exfalso
    rw [e2] at h2
    have h3 := congrArg Prod.fst h2
    simp [dots] at h3
    exact e3 h3
theorem feeds_le (ls : List (List UInt8)) (h : ∀ l ∈ ls, l.length ≤ 16777216) (hm : ls.length ≤ 65536) : (feeds ls).length ≤ 1099511824384 := by
  have h1 : ∀ (l : List (List UInt8)), (∀ x ∈ l, x.length ≤ 16777216) → (feeds l).length ≤ l.length * 16777217 := by
    intro l
    induction l with
    | nil => intro _; simp [feeds]
    | cons x t ih =>
      intro h
      have h1 := h x (List.mem_cons_self ..)
      have h2 := ih (fun y hy => h y (List.mem_cons_of_mem _ hy))
      have e : feeds (x :: t) = x ++ [10] ++ feeds t := by simp [feeds]
      rw [e, List.length_append, List.length_append]
      simp only [List.length_cons, List.length_nil]
      omega
  have h2 := h1 ls h
  have h3 : ls.length * 16777217 ≤ 65536 * 16777217 := Nat.mul_le_mul hm (Nat.le_refl _)
  omega
/-- What is left of the want. -/
theorem flat_at {ss : List (List UInt8)} {T W s : List UInt8} {k : Nat} (hW : W = ss.flatten ++ T) (hs : ss[k]? = some s) :
    W.drop (ss.take k).flatten.length = s ++ W.drop (ss.take (k + 1)).flatten.length ∧ (ss.take (k + 1)).flatten.length = (ss.take k).flatten.length + s.length := by
  have hk : k < ss.length := by
    rcases Nat.lt_or_ge k ss.length with h' | h'
    · exact h'
    · rw [List.getElem?_eq_none h'] at hs; cases hs
  have hsk : ss[k] = s := by rw [List.getElem?_eq_getElem hk] at hs; injection hs
  have hf := flat_snoc ss k hk
  rw [hsk] at hf
  have hl : (ss.take (k + 1)).flatten.length = (ss.take k).flatten.length + s.length := by rw [hf, List.length_append]
  refine ⟨?_, hl⟩
  have hall : W = (ss.take k).flatten ++ (s ++ ((ss.drop (k + 1)).flatten ++ T)) := by
    rw [hW]
    conv => lhs; rw [← List.take_append_drop (k + 1) ss]
    rw [List.flatten_append, hf]
    simp
  have h2 : ((ss.take k).flatten ++ (s ++ ((ss.drop (k + 1)).flatten ++ T))).drop ((ss.take k).flatten.length + s.length) = (ss.drop (k + 1)).flatten ++ T := by
    rw [← List.append_assoc, ← List.length_append]
    exact List.drop_left
  rw [hl, hall, h2, List.drop_left]
theorem RB.none_nil {w : World} {l : List UInt8} (h : RB w none l) : l = [] := by
  rcases l with _ | ⟨b, t⟩
  · rfl
  · obtain ⟨_, _, h, _⟩ := h (by simp)
    cases h
set_option maxRecDepth 200000 in
set_option maxHeartbeats 3200000 in
theorem lawDotReads (E : Nat → Addr) (gs : List Nat) (A : Option Addr) (n c : Nat) (ls : List (List UInt8)) (hn : n = ls.length) (hl : ∀ l ∈ ls, l.length ≤ 9223372036854775807) (hm : ls.length ≤ 9223372036854775807) (A2 : Option Addr) (n2 c2 : Nat) (zs : List Int) (hn2 : n2 = zs.length) (hzl : zs.length ≤ 9223372036854775807) (w : World) (hr : SL w A ls) (hz : IL w A2 zs) (hs : Sens w E gs)
    (hg : 1 ∈ gs) (hk : 2 ∈ gs) :
    Calls Tryd.prog 5 #[.slice A n c, .slice A2 n2 c2] w fun e w' => e = .returned (.bool true) ∧ Below w.heap.size w w' := by
  subst hn2
  have hz3 := zzFits3_any (c := c) hr hn hl hm
  have hbr := brief_any (c := c) hr hn hl hm
  have hdl := dotless_any (c := c) hr hn hl hm
  subst hn
  obtain ⟨b1, hb1⟩ : ∃ b1, b1 = (decide (ls.length ≤ 2147483647) && allLe 2147483647 ls) := ⟨_, rfl⟩
  obtain ⟨b2, hb2⟩ : ∃ b2, b2 = (allLe 16777216 ls && decide (ls.length ≤ 65536)) := ⟨_, rfl⟩
  obtain ⟨b3, hb3⟩ : ∃ b3, b3 = cleansB ls := ⟨_, rfl⟩
  rw [← hb1] at hz3
  rw [← hb2] at hbr
  rw [← hb3] at hdl
  have H := Lib.hid (And.intro hz3 (And.intro hbr hdl))
  have HB := Lib.hid (And.intro hb1 (And.intro hb2 hb3))
  have HR := Lib.hid (And.intro hr (And.intro hz hs))
  clear hz3 hbr hdl hb1 hb2 hb3 hr hz hs
  by_cases hgo : b1 = true ∧ b2 = true ∧ b3 = true ∧ zs.length ≤ 1048576
  · obtain ⟨rfl, rfl, rfl, hz20⟩ := hgo
    have hcl := cleansB_iff.1 HB.out.2.2.symm
    have hbs := HB.out.2.1.symm
    rw [Bool.and_eq_true, allLe_iff, decide_eq_true_eq] at hbs
    have hdt := dotText_le ls hbs.1 hbs.2
    have hft : (feeds ls).length ≤ 1099511824384 := feeds_le ls hbs.1 hbs.2
    have hdx := fun (w1 : World) (h1 : Below w.heap.size w w1) => specDotText_any (c := c) (HR.out.1.below h1) rfl hbs.1 hbs.2
    have hfx := specFeeds_any (c := c) HR.out.1 rfl (by omega) (by omega)
    have hlaw := fun {ss er} (hh : ReadsSay (dotText ls) zs ss er) => hh.text hcl
    have hii := fun (w1 : World) (A1 : Option Addr) (n1 c1 : Nat) (h1 : Below w.heap.size w w1) (hn1 : n1 = (dotText ls).length) (hr1 : RB w1 A1 (dotText ls)) => implDotReads_any (c := c1) (HR.out.2.2.below h1) hg hk hn1 hr1 (by omega) (n2 := zs.length) (c2 := c2) rfl (HR.out.2.1.below h1) hz20
    have HL := Lib.hid (fun ss er (hh : ReadsSay (dotText ls) zs ss er) => hlaw hh)
    have HI := Lib.hid (And.intro hdx (And.intro hfx hii))
    have HDT := Lib.hid hdt
    generalize dotText ls = D at *
    generalize feeds ls = W at *
    clear hcl hbs hdx hfx hlaw hii hdt
    go_enter Tryd.func5, Tryd.ntmps5
    go_wp2_with (first
      | (go_at_call 21; refine H.out.1.mono ?_; rintro e w' ⟨rfl, rfl⟩)
      | (go_at_call 22; refine H.out.2.1.mono ?_; rintro e w' ⟨rfl, rfl⟩)
      | (go_at_call 23; refine H.out.2.2.mono ?_; rintro e w' ⟨rfl, rfl⟩)
      | (go_at_call 24; refine HI.out.2.1.mono ?_; rintro e w1 ⟨⟨A1, c1, rfl, ho1, hc1, hc1', hr1⟩, hb1⟩; have HO1 := Lib.hid ho1.shape; clear ho1; have H1 := Lib.hid (And.intro hr1 hb1); clear hr1 hb1)
      | (go_at_call 19; refine (HI.out.1 w1 H1.out.2).mono ?_; rintro e w2 ⟨⟨A2', c2', rfl, ho2, hr2⟩, hb2⟩; have H2 := Lib.hid (And.intro hr2 (H1.out.2.trans (hb2.mono H1.out.2.size))); have H2b := Lib.hid hb2; clear ho2 hr2 hb2)
      | (go_at_call 25; refine (HI.out.2.2 w2 A2' _ c2' H2.out.2 rfl H2.out.1).mono ?_; rintro e w3 ⟨vs, ss, A3, c3, er, rfl, hsay, hvr, hbv, hb3⟩; have H3 := Lib.hid (And.intro hvr (And.intro hbv (And.intro hb3 hsay))); clear hvr hbv hb3 hsay))
    obtain ⟨num, hnum⟩ : ∃ num, num = er.num := ⟨_, rfl⟩
    rw [← hnum]
    have hlw := HL.out _ _ H3.out.2.2.2
    obtain ⟨T, hWT, hcs⟩ := hlw
    have hvl : vs.length = ss.length := H3.out.2.1.1
    have hsl : ss.length ≤ zs.length := H3.out.2.2.2.len
    have hcs2 : (num = 0 ∧ ss.length = zs.length) ∨ (num = 1 ∧ T = []) := by
      rcases hcs with ⟨h1, h2⟩ | ⟨h1, h2⟩
      · exact .inl ⟨by rw [hnum, h1]; rfl, h2⟩
      · exact .inr ⟨by rw [hnum, h1]; rfl, h2⟩
    have HW := Lib.hid (And.intro hWT (And.intro hcs2 (And.intro hvl hsl)))
    have hvsl : vs.length ≤ 1048576 := by omega
    clear hnum hcs hcs2 hWT hvl hsl
    go_loopg [5, 8, 9, 40] vs.length (fun gk u5 _ _ u40 wr => ∃ (k : Nat) (A5 : Option Addr) (c5 : Nat), k + gk = vs.length ∧ u40 = .int .i64 k ∧ u5 = .slice A5 (W.drop (ss.take k).flatten.length).length c5 ∧ (W.drop (ss.take k).flatten.length).length ≤ c5 ∧ c5 ≤ 9223372036854775807 ∧ RB wr A5 (W.drop (ss.take k).flatten.length) ∧ Only w3 wr ∧ Hid (A5 = none ∨ ∃ g o, A5 = some ⟨g, o, none⟩))
    case atStart => exact ⟨0, A1, c1, by omega, rfl, by simp, by simpa using hc1, hc1', by simpa using H1.out.1.below (H2b.out.trans (H3.out.2.2.1.mono H2b.out.size)), Only.refl _, HO1⟩
    case round =>
      obtain ⟨k, A5, c5, hk, rfl, rfl, hc5, hc5', hrb, hO, HA5⟩ := hrel
      by_cases hlt : k < vs.length
      · obtain ⟨s, hsk⟩ : ∃ s, ss[k]? = some s := ⟨_, List.getElem?_eq_getElem (by have := HW.out.2.2.1; omega)⟩
        obtain ⟨v, hvk⟩ : ∃ v, vs[k]? = some v := ⟨_, List.getElem?_eq_getElem hlt⟩
        obtain ⟨gb, cb, rfl, hcb, hcb', hrv, hgl, _⟩ := H3.out.2.1.2 k _ _ hvk hsk
        obtain ⟨z, hzk, hzs⟩ := H3.out.2.2.2.le k s hsk
        obtain ⟨g3, o3, rfl, hx3⟩ := H3.out.1 (by rintro rfl; simp at hvk)
        obtain ⟨g2, o2, rfl, hx2⟩ := HR.out.2.1 (by rintro rfl; simp at hzk)
        have e3 := hx3 k _ hvk
        have e2 : w3.cell? ⟨g2, o2 + k, none⟩ = some (.int .i64 z) := ((H2.out.2.trans (H3.out.2.2.1.mono H2.out.2.size)).cell (p := ⟨g2, o2 + k, none⟩) (World.block_lt_of_cell? _ _ (hx2 k z hzk))).trans (hx2 k z hzk)
        have d3 : wr.cell? ⟨g3, o3 + k, none⟩ = some (.slice (some ⟨gb, 0, none⟩) s.length cb) := by rw [World.cell?_of_block (hO.at_ g3)]; exact e3
        have d2 : wr.cell? ⟨g2, o2 + k, none⟩ = some (.int .i64 z) := by rw [World.cell?_of_block (hO.at_ g2)]; exact e2
        have hrv2 : RB wr (some ⟨gb, 0, none⟩) s := hrv.same (fun g _ _ _ => hO.at_ g)
        obtain ⟨hf1, hf2⟩ := flat_at HW.out.1 hsk
        have hkz : k < zs.length := by have := HW.out.2.2; omega
        have hkzi : (k : Int) < (zs.length : Int) := by omega
        have hzl2 : (zs.length : Int) ≤ 9223372036854775807 := by omega
        have t1 : decide (max 0 z < (s.length : Int)) = false := decide_eq_false (by omega)
        have hdl := congrArg List.length hf1
        rw [List.length_append] at hdl
        have t2 : decide (((W.drop (ss.take k).flatten.length).length : Int) < (s.length : Int)) = false := decide_eq_false (by omega)
        have hle : s.length ≤ (W.drop (ss.take k).flatten.length).length := by omega
        have HF := Lib.hid (And.intro hf1 (And.intro hf2 (And.intro hdl hO)))
        obtain ⟨R, hR⟩ : ∃ R, R = W.drop (ss.take k).flatten.length := ⟨_, rfl⟩
        rw [← hR] at hrb hc5 t2 hle ⊢
        have HR2 := Lib.hid hR
        have HRB := Lib.hid (And.intro hrb hrv2)
        clear hf1 hf2 hdl hO hR hrb hrv2 hx3 hx2 e3 e2 hvk hsk hzk hzs hrv
        rcases HA5.out with rfl | ⟨g5, o5, rfl⟩
        · have hRn : R = [] := HRB.out.1.none_nil
          subst hRn
          have hsn : s = [] := List.length_eq_zero_iff.1 (by simpa using hle)
          subst hsn
          clear t1 t2
          simp only [List.length_nil] at hc5 hcb d3 ⊢
          have t1 : decide (max 0 z < (0 : Int)) = false := decide_eq_false (by omega)
          have st1 : ∀ n, (convert 24 9 (.slice (some ⟨gb, 0, none⟩) 0 cb)).run Tryd.prog (wr.drewN n) = .ok (.string ⟨#[]⟩) (wr.drewN n) := fun n => run_toString_nil
          have st2 : ∀ n, (convert 24 9 (.slice none 0 c5)).run Tryd.prog (wr.drewN n) = .ok (.string ⟨#[]⟩) (wr.drewN n) := fun n => run_toString_nil
          go_wp2
          go_quiet (fail)
          go_wp2
          go_roundg (gk - 1)
          case measure => omega
          case rel =>
            obtain ⟨hf1, hf2, hdl, hO⟩ := HF.out
            have hR2 : [] = W.drop (ss.take (k + 1)).flatten.length := by
              have := HR2.out
              rw [hf1] at this
              simpa using this
            exact ⟨k + 1, none, c5, by omega, by go_num, by rw [← hR2]; rfl, by rw [← hR2]; exact Nat.zero_le _, hc5', by rw [← hR2]; exact RB.nil _ _, hO.drewN _, Lib.hid (.inl rfl)⟩
        · have hRs : R = s ++ W.drop (ss.take (k + 1)).flatten.length := by rw [HR2.out]; exact HF.out.1
          have hrl : RB wr (some ⟨g5, o5, none⟩) s := by have := HRB.out.1; rw [hRs] at this; exact this.left
          have hrd := HRB.out.1.drop s.length
          have hRd : R.drop s.length = W.drop (ss.take (k + 1)).flatten.length := by rw [hRs]; exact List.drop_left
          rw [hRd] at hrd
          have hRl : (W.drop (ss.take (k + 1)).flatten.length).length = R.length - s.length := by rw [← hRd, List.length_drop]
          have st1 : ∀ n, (convert 24 9 (.slice (some ⟨gb, 0, none⟩) s.length cb)).run Tryd.prog (wr.drewN n) = .ok (.string ⟨s.toArray⟩) (wr.drewN n) := fun n => run_toStringR rfl (HRB.out.2.same (fun _ _ _ _ => rfl))
          have st2 : ∀ n, (convert 24 9 (.slice (some ⟨g5, o5, none⟩) s.length c5)).run Tryd.prog (wr.drewN n) = .ok (.string ⟨s.toArray⟩) (wr.drewN n) := fun n => run_toStringR rfl (hrl.same (fun _ _ _ _ => rfl))
          have hfin : ∀ (nq : Nat) (A6 : Option Addr), (A6 = (if c5 = s.length then some ⟨g5, o5, none⟩ else some ⟨g5, o5 + s.length, none⟩)) → ∃ (k' : Nat) (A5 : Option Addr) (c5' : Nat), k' + (gk - 1) = vs.length ∧ Value.int .i64 ((k : Int) + 1) = .int .i64 k' ∧ Value.slice A6 (R.length - s.length) (c5 - s.length) = .slice A5 (W.drop (ss.take k').flatten.length).length c5' ∧ (W.drop (ss.take k').flatten.length).length ≤ c5' ∧ c5' ≤ 9223372036854775807 ∧ RB (wr.drewN nq) A5 (W.drop (ss.take k').flatten.length) ∧ Only w3 (wr.drewN nq) ∧ Hid (A5 = none ∨ ∃ g o, A5 = some ⟨g, o, none⟩) := fun nq A6 hA6 => by
            refine ⟨k + 1, A6, c5 - s.length, by omega, by go_num, by rw [hRl], by rw [hRl]; omega, by omega, ?_, HF.out.2.2.2.drewN _, Lib.hid (.inr ?_)⟩
            · rw [hA6]
              split
              · have : W.drop (ss.take (k + 1)).flatten.length = [] := List.length_eq_zero_iff.1 (by rw [hRl]; omega)
                rw [this]
                exact RB.nil _ _
              · exact hrd.same (fun _ _ _ _ => rfl)
            · rw [hA6]
              split
              · exact ⟨_, _, rfl⟩
              · exact ⟨_, _, rfl⟩
          have HFin := Lib.hid hfin
          clear hfin hRs hrl hrd hRd hRl
          have hsc : (s.length : Int) ≤ (c5 : Int) := by omega
          have hscb : (s.length : Int) ≤ (cb : Int) := by omega
          by_cases hce : c5 = s.length
          · subst hce
            have hfin := fun nq => HFin.out nq (some ⟨g5, o5, none⟩) (by simp)
            have hR3 : R.length - s.length = 0 := by omega
            simp only [Nat.sub_self, hR3] at hfin
            have HFin2 := Lib.hid hfin
            clear hfin HFin hR3
            go_wp2
            go_quiet (fail)
            go_wp2
            go_roundg (gk - 1)
            case measure => omega
            case rel => exact HFin2.out _
          · go_wp2
            go_quiet (fail)
            go_wp2
            go_roundg (gk - 1)
            case measure => omega
            case rel => exact HFin.out _ _ (by rw [if_neg hce])
      · have hkl : k = vs.length := by omega
        have hbw : Below w.heap.size w wr := (H2.out.2.trans (H3.out.2.2.1.mono H2.out.2.size)).trans (hO.below _)
        have hte : ss.take k = ss := List.take_of_length_le (by have := HW.out.2.2.1; omega)
        rw [hte] at hrb hc5 ⊢
        have hvl := HW.out.2.2.1
        have hcs := HW.out.2.1
        have hlen : (W.drop ss.flatten.length).length = T.length := by rw [HW.out.1, List.drop_left]
        have HB2 := Lib.hid hbw
        clear hbw hrb hte hO
        rcases hcs with ⟨rfl, h1⟩ | ⟨rfl, rfl⟩
        · have hvz : vs.length = zs.length := by omega
          have hvz2 : ((vs.length : Int) == (zs.length : Int)) = true := by rw [hvz]; exact beq_self_eq_true _
          clear h1 hvl hlen hvz hc5
          subst hkl
          go_wp2
          go_ret
          exact ⟨rfl, HB2.out⟩
        · have hl0 : (W.drop ss.flatten.length).length = 0 := by rw [hlen]; rfl
          rw [hl0]
          clear hvl hlen hc5 hl0
          subst hkl
          go_wp2
          go_ret
          exact ⟨rfl, HB2.out⟩
  · clear HR HB
    rcases (show b1 = false ∨ (b1 = true ∧ 2147483647 < zs.length) ∨ (b1 = true ∧ b2 = false ∧ zs.length ≤ 2147483647) ∨ (b1 = true ∧ b2 = true ∧ zs.length ≤ 2147483647 ∧ 1048576 < zs.length) ∨ (b1 = true ∧ b2 = true ∧ b3 = false ∧ zs.length ≤ 1048576) by
      cases b1
      · exact .inl rfl
      · by_cases h1 : 2147483647 < zs.length
        · exact .inr (.inl ⟨rfl, h1⟩)
        · cases b2
          · exact .inr (.inr (.inl ⟨rfl, rfl, by omega⟩))
          · by_cases h2 : 1048576 < zs.length
            · exact .inr (.inr (.inr (.inl ⟨rfl, rfl, by omega, h2⟩)))
            · cases b3
              · exact .inr (.inr (.inr (.inr ⟨rfl, rfl, rfl, by omega⟩)))
              · exact absurd ⟨rfl, rfl, rfl, by omega⟩ hgo) with rfl | ⟨rfl, h1⟩ | ⟨rfl, rfl, h1⟩ | ⟨rfl, rfl, h1, h2⟩ | ⟨rfl, rfl, rfl, h1⟩
    all_goals
      clear hgo
      go_enter Tryd.func5, Tryd.ntmps5
      go_wp2_with (first
        | (go_at_call 21; refine H.out.1.mono ?_; rintro e w' ⟨rfl, rfl⟩)
        | (go_at_call 22; refine H.out.2.1.mono ?_; rintro e w' ⟨rfl, rfl⟩)
        | (go_at_call 23; refine H.out.2.2.mono ?_; rintro e w' ⟨rfl, rfl⟩))
      go_ret
      exact ⟨rfl, Below.refl _ _⟩
end Go.Proofs.YteiiocibldpioaaDoor
