/- The walk of impl.Run. -/
import Derived.Test.YtaoedejenjfhoaaRunL
import Derived.Deep.LoopGhost
namespace Go.Proofs.Ytaoedejenjfhoaa
open Go.RowKit Go.Maps

theorem OS.litE (w : World) (base : Nat) (hb : base ≤ w.heap.size) : OS (w.alloc (.cells #[] 9)) base (.slice (some ⟨w.heap.size, 0, none⟩) 0 0) [] :=
  World.ownsRow_lit (base := base) (e := 9) (size := 1) w #[] 0 hb (by unfold maxLen; omega) rfl
theorem OS.litE' {w : World} {base g : Nat} (hg : g = w.heap.size) (hb : base ≤ w.heap.size) : OS (w.alloc (.cells #[] 9)) base (.slice (some ⟨g, 0, none⟩) 0 0) [] := by subst hg; exact OS.litE w base hb
def RunAt (base : Nat) (ts : List StepR) (k : Nat) (v : Value) (wr : World) : Prop := ∃ n N val vs, n ≤ k ∧ RunS wr base base n N val vs v (runM (ts.take k))
set_option maxRecDepth 200000 in
set_option maxHeartbeats 2000000 in
theorem implRun_any {w : World} {A : Option Addr} {n c : Nat} {ts : List StepR} (hr : TL w A ts) (hn : n = ts.length) (hl : ∀ t ∈ ts, t.k.length ≤ 9223372036854775807) (hm : ts.length ≤ 3000000000) :
    Calls Try.prog 19 #[.slice A n c] w fun e w' => (∃ N vs A' c', e = .returned (.slice A' vs.length c') ∧ Outs w' w.heap.size N (.slice A' vs.length c') vs (runM ts).2) ∧ Below w.heap.size w w' := by
  subst hn
  have HX := Lib.hid (And.intro hr hl)
  clear hr hl
  have hmm := @run_makeMap Try.prog
  go_enter Try.func19, Try.ntmps19
  go_wp2
  go_loopg [4, 6, 10] (ts.length) (fun gk v _ i wr => ∃ k : Nat, k + gk = ts.length ∧ i = .int .i64 k ∧ Hid (RunAt w.heap.size ts k v wr) ∧ Below w.heap.size w wr)
  case atStart =>
    refine ⟨0, by omega, rfl, Lib.hid ⟨0, fun _ => False, _, [], Nat.le_refl _, ⟨⟨MapIs.made w, Nat.le_refl _, fun h => h, fun _ => OS.nil _ _, fun _ _ _ h => (by cases h), fun _ _ _ h => h, fun _ => (by simp [runM])⟩, fun _ h => h.elim, Outs.nil _ _ _⟩⟩, (Below.refl _ _).alloc (Nat.le_refl _) _⟩
  case round =>
    obtain ⟨k, hk, rfl, hrun, hb⟩ := hrel
    by_cases hlt : k < ts.length
    · obtain ⟨t, hT⟩ : ∃ t, t = ts[k] := ⟨_, rfl⟩
      have hne : ts ≠ [] := by rintro rfl; simp at hlt
      have hsn := runM_snoc ts k hlt
      have hlen := runM_len ts k (by omega)
      have hkl := HX.out.2 ts[k] (List.getElem_mem hlt)
      obtain ⟨g, o, rfl, hx⟩ := HX.out.1 hne
      obtain ⟨d0, d1, d2⟩ := hx k ts[k] (List.getElem?_eq_getElem hlt)
      rw [← hT] at d0 d1 d2 hsn hkl
      obtain ⟨tc, tk, tv⟩ := t
      have c0 : wr.cell? ⟨g, o + k * 3, none⟩ = some (.string ⟨tc.toArray⟩) := (hb.cell (p := ⟨g, o + k * 3, none⟩) (World.block_lt_of_cell? _ _ d0)).trans d0
      have c1 : wr.cell? ⟨g, o + k * 3 + 1, none⟩ = some (.string ⟨tk.toArray⟩) := (hb.cell (p := ⟨g, o + k * 3 + 1, none⟩) (World.block_lt_of_cell? _ _ d1)).trans d1
      have c2 : wr.cell? ⟨g, o + k * 3 + 2, none⟩ = some (.string ⟨tv.toArray⟩) := (hb.cell (p := ⟨g, o + k * 3 + 2, none⟩) (World.block_lt_of_cell? _ _ d2)).trans d2
      clear d0 d1 d2 hx hne hT
      obtain ⟨m, N, val, vs, hmk, hrs⟩ := hrun.out
      obtain ⟨A0, c00, rfl, hc0, hc00, _⟩ := hrs.outs.own.form
      have hW := hrs.below ((Below.refl _ wr).alloc (Nat.le_refl _) (.cells #[.string ⟨tc.toArray⟩, .string ⟨tk.toArray⟩, .string ⟨tv.toArray⟩] 36))
      have hsz := hb.size
      have hvl := hrs.outs.rows.1
      have HR := Lib.hid (And.intro hW (And.intro (hb.alloc hb.size (.cells #[.string ⟨tc.toArray⟩, .string ⟨tk.toArray⟩, .string ⟨tv.toArray⟩] 36)) (And.intro hmk (And.intro hsn (And.intro hlen hvl)))))
      have HK := Lib.hid hkl
      clear hrun hrs hW hb hmk hsn hc0 hc00 hkl hlen hvl
      have hb0 : w.heap.size ≤ (wr.alloc (.cells #[.string ⟨tc.toArray⟩, .string ⟨tk.toArray⟩, .string ⟨tv.toArray⟩] 36)).heap.size := by simp; omega
      have HB := Lib.hid hb0
      clear hb0
      by_cases h1 : tc = addB
      · subst h1
        go_wp2_with (go_at_call 30; refine (add_any HR.out.1.hdr HR.out.1.lt HB.out (by have := HR.out.2.2.1; omega) _ _ HK.out).mono ?_; rintro e w2 ⟨rfl, he⟩; have H2 := Lib.hid he; clear he)
        go_roundg (gk - 1)
        case measure => omega
        case rel =>
          obtain ⟨val', hn'⟩ := HR.out.1.turn H2.out
          refine ⟨k + 1, by omega, by go_num, Lib.hid ⟨m + 1, N, val', vs, by have := HR.out.2.2.1; omega, ?_⟩, HR.out.2.1.trans (H2.out.2.below HB.out)⟩
          rw [HR.out.2.2.2.1]
          exact hn'
      · by_cases h2 : tc = setB
        · subst h2
          go_wp2_with (go_at_call 31; refine (set_any HR.out.1.hdr HR.out.1.lt HB.out (by have := HR.out.2.2.1; omega) _ _ HK.out).mono ?_; rintro e w2 ⟨rfl, he⟩; have H2 := Lib.hid he; clear he)
          go_roundg (gk - 1)
          case measure => omega
          case rel =>
            obtain ⟨val', hn'⟩ := HR.out.1.turn H2.out
            refine ⟨k + 1, by omega, by go_num, Lib.hid ⟨m + 1, N, val', vs, by have := HR.out.2.2.1; omega, ?_⟩, HR.out.2.1.trans (H2.out.2.below HB.out)⟩
            rw [HR.out.2.2.2.1]
            exact hn'
        · by_cases h3 : tc = delB
          · subst h3
            go_wp2_with (go_at_call 32; refine (del_any HR.out.1.hdr HR.out.1.lt _ HK.out).mono ?_; rintro e w2 ⟨rfl, he⟩; have H2 := Lib.hid he; clear he)
            go_roundg (gk - 1)
            case measure => omega
            case rel =>
              obtain ⟨val', hn'⟩ := HR.out.1.turn H2.out
              refine ⟨k + 1, by omega, by go_num, Lib.hid ⟨m, N, val', vs, by have := HR.out.2.2.1; omega, ?_⟩, HR.out.2.1.trans (H2.out.2.below HB.out)⟩
              rw [HR.out.2.2.2.1]
              exact hn'
          · by_cases h4 : tc = getB
            · subst h4
              go_wp2_with (go_at_call 33; refine (get_any HR.out.1.hdr _ HK.out).mono ?_; rintro e w2 ⟨rfl, he⟩; have H2 := Lib.hid he; clear he; refine Hid.out ?_)
              refine Lib.hid ?_
              go_wp2_with ((with_reducible refine at_appendV ?_); refine wpList_append_V1 rfl _ _ _ Try.underlying30 rfl w.heap.size (.slice A0 vs.length c00) vs rfl (((HR.out.1.outs.own.below H2.out).alloc _).alloc _) _ (.slice (some ⟨w2.heap.size, 0, none⟩) 1 1) 1 rfl rfl (by simp) (by have := HR.out.2.2.2.2.1; have := HR.out.2.2.2.2.2; omega) (by have := HB.out; have := H2.out.size; simp at *; omega) _ rfl ?_; intro A4 c4 w4 hap; have H4 := Lib.hid hap; clear hap)
              go_roundg (gk - 1)
              case measure => omega
              case rel =>
                have hu := SL.one w2 (firstOf ((runM (ts.take k)).1 (canonOf tk))) 9
                obtain ⟨N', hn'⟩ := (HR.out.1.below H2.out).push ((Below.refl _ _).alloc (Nat.le_refl _) _) (u := .slice (some ⟨w2.heap.size, 0, none⟩) 1 1) (l := [firstOf ((runM (ts.take k)).1 (canonOf tk))])
                  ⟨_, _, rfl, Nat.le_refl _, by decide, hu, fun g o e _ => by injection e with e; injection e with e _; omega⟩ H4.out
                refine ⟨k + 1, by omega, by go_num, Lib.hid ⟨m, N', val, vs ++ [.slice (some ⟨w2.heap.size, 0, none⟩) 1 1], by have := HR.out.2.2.1; omega, ?_⟩, ?_⟩
                · rw [HR.out.2.2.2.1]
                  exact hn'
                · have hbs : w.heap.size ≤ w2.heap.size := Nat.le_trans HB.out H2.out.size
                  exact (HR.out.2.1.trans ((H2.out.mono HB.out).trans (((Below.refl _ _).alloc hbs _).alloc (by simp; omega) _))).trans (H4.out.below (((HR.out.1.outs.own.below H2.out).alloc _).alloc _) (by simp; omega))
            · by_cases h5 : tc = valuesB
              · subst h5
                have hB1 := (Below.refl (wr.alloc (.cells #[.string ⟨valuesB.toArray⟩, .string ⟨tk.toArray⟩, .string ⟨tv.toArray⟩] 36)).heap.size (wr.alloc (.cells #[.string ⟨valuesB.toArray⟩, .string ⟨tk.toArray⟩, .string ⟨tv.toArray⟩] 36))).alloc (Nat.le_refl _) (.cells #[] 9)
                have HV := Lib.hid (And.intro (HR.out.1.below hB1) (OS.litE' (w := (wr.alloc (.cells #[.string ⟨valuesB.toArray⟩, .string ⟨tk.toArray⟩, .string ⟨tv.toArray⟩] 36))) (g := wr.heap.size + 1) (base := (wr.alloc (.cells #[.string ⟨valuesB.toArray⟩, .string ⟨tk.toArray⟩, .string ⟨tv.toArray⟩] 36)).heap.size) (by simp) (Nat.le_refl _)))
                have hsm := HR.out.1.hdr.small (canonOf tk)
                have HM := Lib.hid (And.intro hB1 (show ((runM (ts.take k)).1 (canonOf tk)).length ≤ 3000000000 by have := HR.out.2.2.1; omega))
                clear hB1 hsm
                go_wp2_with (go_at_call 34; refine (values_any HV.out.1.hdr _ HK.out).mono ?_; rintro e w2 ⟨⟨A2, c2, rfl, hs2⟩, hb2⟩; have H2 := Lib.hid (And.intro hs2 (And.intro hb2 (HM.out.1.trans (hb2.mono (by simp))))); clear hs2 hb2; refine Hid.out ?_)
                refine Lib.hid ?_
                go_wp2_with (first
                  | ((with_reducible refine at_appendS ?_); refine wpList_append_S rfl _ _ _ Try.underlying31 rfl (wr.alloc (.cells #[.string ⟨valuesB.toArray⟩, .string ⟨tk.toArray⟩, .string ⟨tv.toArray⟩] 36)).heap.size (.slice (some ⟨wr.heap.size + 1, 0, none⟩) 0 0) [] rfl (HV.out.2.below H2.out.2.1) A2 ((runM (ts.take k)).1 (canonOf tk)) _ c2 rfl rfl H2.out.1 (by have := HM.out.2; simp; omega) H2.out.2.2.size _ (Nat.zero_add _).symm _ rfl ?_; intro A3 c3 w3 hap3; have H3 := Lib.hid (And.intro hap3 (H2.out.2.2.trans (hap3.below (HV.out.2.below H2.out.2.1) H2.out.2.2.size))); clear hap3)
                  | ((with_reducible refine at_appendV ?_); refine wpList_append_V1 rfl _ _ _ Try.underlying30 rfl w.heap.size (.slice A0 vs.length c00) vs rfl ((HR.out.1.outs.own.below H3.out.2).alloc _) _ (.slice A3 ((runM (ts.take k)).1 (canonOf tk)).length c3) 1 rfl rfl (by simp) (by have := HR.out.2.2.2.2.1; have := HR.out.2.2.2.2.2; omega) (by have := HB.out; have := H3.out.2.size; simp at *; omega) _ rfl ?_; intro A4 c4 w4 hap; have H4 := Lib.hid hap; clear hap))
                go_roundg (gk - 1)
                case measure => omega
                case rel =>
                  obtain ⟨N', hn'⟩ := HR.out.1.push (l := (runM (ts.take k)).1 (canonOf tk)) H3.out.2
                    ⟨A3, c3, rfl, H3.out.1.le, H3.out.1.le', H3.out.1.read, fun g o e _ => (H3.out.1.own.lt g (by rw [e]; rfl)).1⟩ H4.out
                  refine ⟨k + 1, by omega, by go_num, Lib.hid ⟨m, N', val, vs ++ [.slice A3 ((runM (ts.take k)).1 (canonOf tk)).length c3], by have := HR.out.2.2.1; omega, ?_⟩, ?_⟩
                  · rw [HR.out.2.2.2.1]
                    exact hn'
                  · have hbs : w.heap.size ≤ w3.heap.size := Nat.le_trans HB.out H3.out.2.size
                    exact (HR.out.2.1.trans ((H3.out.2.mono HB.out).trans ((Below.refl _ _).alloc hbs _))).trans (H4.out.below ((HR.out.1.outs.own.below H3.out.2).alloc _) (by simp; omega))
              · have e1 : (tc == [65, 100, 100]) = false := beq_eq_false_iff_ne.2 h1
                have e2 : (tc == [83, 101, 116]) = false := beq_eq_false_iff_ne.2 h2
                have e3 : (tc == [68, 101, 108]) = false := beq_eq_false_iff_ne.2 h3
                have e4 : (tc == [71, 101, 116]) = false := beq_eq_false_iff_ne.2 h4
                have e5 : (tc == [86, 97, 108, 117, 101, 115]) = false := beq_eq_false_iff_ne.2 h5
                have HH := Lib.hid (And.intro h1 (And.intro h2 (And.intro h3 (And.intro h4 h5))))
                clear h1 h2 h3 h4 h5
                go_wp2
                go_roundg (gk - 1)
                case measure => omega
                case rel =>
                  refine ⟨k + 1, by omega, by go_num, Lib.hid ⟨m, N, val, vs, by have := HR.out.2.2.1; omega, ?_⟩, HR.out.2.1⟩
                  rw [HR.out.2.2.2.1]
                  obtain ⟨h1, h2, h3, h4, h5⟩ := HH.out
                  unfold stepM
                  rw [if_neg h1, if_neg h2, if_neg h3, if_neg h4, if_neg h5]
                  exact HR.out.1
    · obtain ⟨m, N, val, vs, hmk, hrs⟩ := hrun.out
      obtain ⟨A0, c00, rfl, hc0, hc00, _⟩ := hrs.outs.own.form
      have HR := Lib.hid (And.intro hrs hb)
      have hk2 : ts.take k = ts := List.take_of_length_le (by omega)
      rw [hk2] at HR
      clear hrun hrs hb hc0 hc00 hk2
      go_wp2
      go_ret
      exact ⟨⟨N, vs, A0, c00, rfl, HR.out.1.outs⟩, HR.out.2⟩
end Go.Proofs.Ytaoedejenjfhoaa
