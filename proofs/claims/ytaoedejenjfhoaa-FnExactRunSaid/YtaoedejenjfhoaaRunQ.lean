/- The walk of the reference's Run. -/
import Derived.Test.YtaoedejenjfhoaaRunP
import Derived.Deep.DeepCutAuto
import Derived.Deep.RegionHeld3
import Derived.Lib.AppendZeros
namespace Go.Proofs.Ytaoedejenjfhoaa
open Go.RowKit Go.Maps

theorem updF_small {f : Hdr} {m : Nat} {c : List UInt8} {l : List (List UInt8)} (h : ∀ c, (f c).length ≤ m) (hl : l.length ≤ m) : ∀ c', (updF f c l c').length ≤ m := by
  intro c'
  by_cases e : c' = c
  · subst e; rw [updF_same]; exact hl
  · rw [updF_other _ _ e]; exact h c'
theorem stepM_small (s : Hdr × List (List (List UInt8))) (t : StepR) (k : Nat) (h : ∀ c, (s.1 c).length ≤ k) : ∀ c, ((stepM s t).1 c).length ≤ k + 1 := by
  have h1 : ∀ c, (s.1 c).length ≤ k + 1 := fun c => Nat.le_succ_of_le (h c)
  have h2 := h (canonOf t.k)
  unfold stepM
  repeat' split
  · exact updF_small h1 (by simp; omega)
  · exact updF_small h1 (by simp)
  · exact updF_small h1 (by simp)
  all_goals exact h1
theorem runM_small (ts : List StepR) (k : Nat) (h : k ≤ ts.length) : ∀ c, ((runM (ts.take k)).1 c).length ≤ k := by
  induction k with
  | zero => intro c; simp [runM]
  | succ k ih =>
    rw [runM_snoc ts k h]
    exact stepM_small _ _ k (ih (by omega))
/-- The state ahead of a step. -/
def SpAt (base : Nat) (ts : List StepR) (k : Nat) (v : Value) (wr : World) : Prop := ∃ N kv E K vs, SpS wr base base N kv E K v vs (runM (ts.take k)).2 ∧ RelK K (runM (ts.take k)).1 ∧ K.length ≤ k
theorem SpAt.next {base k : Nat} {N : Nat → Prop} {kv v : Value} {E : List (List UInt8 × Value)} {K : KL} {vs : List Value} {wr : World} {ts : List StepR} {s : Hdr × List (List (List UInt8))} (h : SpS wr base base N kv E K v vs s.2) (hr : RelK K s.1) (hk : K.length ≤ k) (e : runM (ts.take k) = s) : SpAt base ts k v wr := by
  subst e
  exact ⟨N, kv, E, K, vs, h, hr, hk⟩
/-- The state of a step that adds: the key stands at place i, its old values are l0. -/
def SpMid (base P i : Nat) (v : Value) (vs : List Value) (f : Hdr) (ls : List (List (List UInt8))) (t : StepR) (l0 : List (List UInt8)) (m : Nat) (w wx : World) : Prop :=
  (∃ N kv E K u0, SpS wx base base N kv E K v vs ls ∧ E[i]? = some (canonOf t.k, u0) ∧ K[i]? = some (canonOf t.k, l0) ∧ K.length ≤ m ∧ (∀ x, kv.ownBlock = some x → x ≠ P) ∧ ∀ l, l ≠ [] → RelK (K.set i (canonOf t.k, l)) (updF f (canonOf t.k) l)) ∧ base ≠ P ∧
  Below base w wx ∧ wx.cell? ⟨P, 0, none⟩ = some (.string ⟨t.c.toArray⟩) ∧ wx.cell? ⟨P, 1, none⟩ = some (.string ⟨t.k.toArray⟩) ∧ wx.cell? ⟨P, 2, none⟩ = some (.string ⟨t.v.toArray⟩)
theorem stepM_add (s : Hdr × List (List (List UInt8))) (k v : List UInt8) (l0 : List (List UInt8)) (h : s.1 (canonOf k) = l0) : stepM s ⟨addB, k, v⟩ = (updF s.1 (canonOf k) (l0 ++ [v]), s.2) := by
  subst h
  unfold stepM
  rw [if_pos rfl]
theorem stepM_set (s : Hdr × List (List (List UInt8))) (k v : List UInt8) : stepM s ⟨setB, k, v⟩ = (updF s.1 (canonOf k) ([] ++ [v]), s.2) := by
  unfold stepM
  rw [if_neg (show ¬ setB = addB by decide), if_pos rfl]
  rfl
theorem OS.mono {w : World} {base base' : Nat} {v : Value} {l : List (List UInt8)} (h : OS w base v l) (hb : base' ≤ base) : OS w base' v l := by
  obtain ⟨h1, h2⟩ := h
  refine ⟨h1, ?_⟩
  rcases h2 with h2 | ⟨g, cap, cur, e, hg, r⟩
  · exact .inl h2
  · exact .inr ⟨g, cap, cur, e, Nat.le_trans hb hg, r⟩
theorem OS.sval {w : World} {base : Nat} {A : Option Addr} {n c : Nat} {l : List (List UInt8)} (h : OS w base (.slice A n c) l) : SVal w (fun x => base ≤ x) (.slice A n c) l := by
  obtain ⟨A', c', e, h1, h2, h3⟩ := h.form
  injection e with e1 e2 e3
  subst e1 e2 e3
  exact ⟨A, c, rfl, h1, h2, h3, fun g o e _ => (h.lt g (by rw [e]; rfl)).1⟩
theorem findIdx_E {E : List (List UInt8 × Value)} {K : KL} (h : E.map (·.1) = K.map (·.1)) {i : Nat} {c : List UInt8} {u : Value} (hi : E[i]? = some (c, u)) : ∃ l, K[i]? = some (c, l) := by
  have h1 : (K.map (·.1))[i]? = some c := by rw [← h, List.getElem?_map, hi]; rfl
  rw [List.getElem?_map] at h1
  rcases hk : K[i]? with _ | ⟨c', l⟩
  · rw [hk] at h1; cases h1
  · rw [hk] at h1; injection h1 with h1; exact ⟨l, by rw [← h1]⟩
theorem obtainKR {w : World} {base B : Nat} {N : Nat → Prop} {ow : Option Nat} {A : Option Addr} {n c : Nat} {E : List (List UInt8 × Value)} {K : KL} (h : KeyS w base B N ow (.slice A n c) E K) : KR w A E := by
  obtain ⟨A', c', e, _, _, hK, _⟩ := h.own.form
  injection e with e
  subst e
  exact hK
set_option maxRecDepth 200000 in
set_option maxHeartbeats 4000000 in
theorem specRun_any {w : World} {A : Option Addr} {n c : Nat} {ts : List StepR} (hr : TL w A ts) (hn : n = ts.length) (hl : ∀ t ∈ ts, t.k.length ≤ 9223372036854775807) (hm : ts.length ≤ 2500000000) :
    Calls Try.prog 20 #[.slice A n c] w fun e w' => (∃ N vs A' c', e = .returned (.slice A' vs.length c') ∧ Outs w' w.heap.size N (.slice A' vs.length c') vs (runM ts).2) ∧ Below w.heap.size w w' := by
  subst hn
  have HX := Lib.hid (And.intro hr hl)
  clear hr hl
  go_enter Try.func20, Try.ntmps20
  go_wp2
  go_loopg [5, 7, 8, 9, 13] (ts.length) (fun gk v _ _ _ i wr => ∃ k : Nat, k + gk = ts.length ∧ i = .int .i64 k ∧ Hid (SpAt w.heap.size ts k v wr) ∧ Below w.heap.size w wr)
  case atStart =>
    refine ⟨0, by omega, rfl, Lib.hid ⟨fun _ => False, .slice none 0 0, [], [], [], ⟨⟨cell_one' w _ _, Blk.free (t := 43) (heap_alloc_new w _) 0, Nat.le_refl _, fun h => h, OE.nil _ _, fun g h => (by cases h), rfl, SVals.nil _ _⟩, fun _ h => h.elim, Outs.nil _ _ _⟩, RelK.nil, Nat.le_refl _⟩, (Below.refl _ _).alloc (Nat.le_refl _) _⟩
  case round =>
    obtain ⟨k, hk, rfl, hrun, hb⟩ := hrel
    by_cases hlt : k < ts.length
    · obtain ⟨t, hT⟩ : ∃ t, t = ts[k] := ⟨_, rfl⟩
      have hne : ts ≠ [] := by rintro rfl; simp at hlt
      have hsn := runM_snoc ts k hlt
      have hlen := runM_len ts k (by omega)
      have hsm := runM_small ts k (by omega)
      have hkl := HX.out.2 ts[k] (List.getElem_mem hlt)
      obtain ⟨g, o, rfl, hx⟩ := HX.out.1 hne
      obtain ⟨d0, d1, d2⟩ := hx k ts[k] (List.getElem?_eq_getElem hlt)
      rw [← hT] at d0 d1 d2 hsn hkl
      obtain ⟨tc, tk, tv⟩ := t
      have c0 : wr.cell? ⟨g, o + k * 3, none⟩ = some (.string ⟨tc.toArray⟩) := (hb.cell (p := ⟨g, o + k * 3, none⟩) (World.block_lt_of_cell? _ _ d0)).trans d0
      have c1 : wr.cell? ⟨g, o + k * 3 + 1, none⟩ = some (.string ⟨tk.toArray⟩) := (hb.cell (p := ⟨g, o + k * 3 + 1, none⟩) (World.block_lt_of_cell? _ _ d1)).trans d1
      have c2 : wr.cell? ⟨g, o + k * 3 + 2, none⟩ = some (.string ⟨tv.toArray⟩) := (hb.cell (p := ⟨g, o + k * 3 + 2, none⟩) (World.block_lt_of_cell? _ _ d2)).trans d2
      clear d0 d1 d2 hx hne hT
      obtain ⟨N, kv, E, K, vs, hss, hrel, hKk⟩ := hrun.out
      obtain ⟨A0, c00, rfl, hc0, hc00, hVR⟩ := hss.outs.own.form
      obtain ⟨AE, cE, rfl, hcE, hcE2, hKR, hKB⟩ := hss.key.own.form
      have hbw := (Below.refl wr.heap.size wr).alloc (Nat.le_refl _) (.cells #[.string ⟨tc.toArray⟩, .string ⟨tk.toArray⟩, .string ⟨tv.toArray⟩] 36)
      have hW := hss.below hbw
      have hEl := hss.key.len
      have HPP := Lib.hid (show w.heap.size ≠ wr.heap.size ∧ ∀ x, (Value.slice AE E.length cE).ownBlock = some x → x ≠ wr.heap.size from ⟨Nat.ne_of_lt hss.key.ltB, fun x hx => Nat.ne_of_lt (hss.key.own.lt x hx).2⟩)
      have hsz := hb.size
      have hb1 := hb.alloc hb.size (.cells #[.string ⟨tc.toArray⟩, .string ⟨tk.toArray⟩, .string ⟨tv.toArray⟩] 36)
      have e0 : (wr.alloc (.cells #[.string ⟨tc.toArray⟩, .string ⟨tk.toArray⟩, .string ⟨tv.toArray⟩] 36)).cell? ⟨wr.heap.size, 0, none⟩ = some (.string ⟨tc.toArray⟩) := Blk.cell (t := 36) (heap_alloc_new wr _) 0
      have e1 : (wr.alloc (.cells #[.string ⟨tc.toArray⟩, .string ⟨tk.toArray⟩, .string ⟨tv.toArray⟩] 36)).cell? ⟨wr.heap.size, 1, none⟩ = some (.string ⟨tk.toArray⟩) := Blk.cell (t := 36) (heap_alloc_new wr _) 1
      have e2 : (wr.alloc (.cells #[.string ⟨tc.toArray⟩, .string ⟨tk.toArray⟩, .string ⟨tv.toArray⟩] 36)).cell? ⟨wr.heap.size, 2, none⟩ = some (.string ⟨tv.toArray⟩) := Blk.cell (t := 36) (heap_alloc_new wr _) 2
      have hF := find_any (key := tk) hW.key.cell rfl (obtainKR hW.key) hW.key.shape (by omega) hkl
      have HR := Lib.hid (And.intro hW (And.intro hb1 (And.intro hrel (And.intro hKk (And.intro hsn (And.intro hlen (And.intro hsm hEl)))))))
      have HF := Lib.hid hF
      have HE := Lib.hid (And.intro e0 (And.intro e1 e2))
      clear hVR hrun hss hW hb hb1 hsn hlen hc0 hc00 hcE hcE2 hKR hKB hrel hsm hF e0 e1 e2 hbw hEl
      go_wp2_with (go_at_call 35; refine HF.out.mono ?_; rintro e w2 ⟨rfl, hb2⟩; have H2 := Lib.hid hb2; clear hb2; refine Hid.out ?_)
      have HS := Lib.hid (And.intro (HR.out.1.below H2.out) (HR.out.2.1.trans (H2.out.mono HR.out.2.1.size)))
      have e0 := (H2.out.cell (p := ⟨wr.heap.size, 0, none⟩) (World.block_lt_of_cell? _ _ HE.out.1)).trans HE.out.1
      have e1 := (H2.out.cell (p := ⟨wr.heap.size, 1, none⟩) (World.block_lt_of_cell? _ _ HE.out.2.1)).trans HE.out.2.1
      have e2 := (H2.out.cell (p := ⟨wr.heap.size, 2, none⟩) (World.block_lt_of_cell? _ _ HE.out.2.2)).trans HE.out.2.2
      have cB := HS.out.1.key.cell
      have fB := HS.out.1.key.free
      have HQ := Lib.hid HR.out.2.2
      have hsz2 := HS.out.2.size
      clear HF HE HR H2 c0 c1 c2 HX hsz
      generalize wr.heap.size = P at e0 e1 e2 HPP ⊢
      clear wr
      by_cases hd : tc = delB
      · subst hd
        rcases keyIdx_cases E (canonOf tk) with ⟨i, hi, hidx, u, hu⟩ | ⟨hidx, hno⟩
        · rw [hidx]
          obtain ⟨ge, rfl, _⟩ := obtainKR HS.out.1.key (by rintro rfl; simp at hi)
          obtain ⟨l0, hl0⟩ := findIdx_E HS.out.1.key.keys hu
          have HK := Lib.hid (And.intro hu hl0)
          have HD := Lib.hid (delete_any HS.out.1.key.own HS.out.1.key.shape i hi)
          have hil : E.length ≤ 2500000000 := by have := HQ.out.2.1; have := HQ.out.2.2.2.2.2; omega
          clear hu hl0 hidx
          refine Lib.hid ?_
          go_wp2_with (go_at_call 37; refine HD.out.mono ?_; rintro e w3 ⟨rfl, ho3, hg3⟩; have H3 := Lib.hid (And.intro ho3 hg3); have cB3 := (World.cell?_of_block (w := w2) (a := ⟨w.heap.size, 0, none⟩) (hg3.block _ HS.out.1.key.ltB (fun e => (HS.out.1.key.out _ e.symm).2 rfl))).trans cB; have fB3 := (World.frozen?_of_block (w := w2) (a := ⟨w.heap.size, 0, none⟩) (hg3.block _ HS.out.1.key.ltB (fun e => (HS.out.1.key.out _ e.symm).2 rfl))).trans fB; clear ho3 hg3)
          go_roundg (gk - 1)
          case measure => omega
          case rel =>
            obtain ⟨hn, hbn⟩ := HS.out.1.gone hsz2 i H3.out.1 H3.out.2 rfl
            refine ⟨k + 1, by omega, by go_num, Lib.hid (SpAt.next (s := (updF (runM (ts.take k)).1 (canonOf tk) [], (runM (ts.take k)).2)) hn (HQ.out.1.erase HK.out.2) ?_ HQ.out.2.2.1), HS.out.2.trans hbn⟩
            rw [List.length_eraseIdx]
            have := HQ.out.2.1
            split <;> omega
        · rw [hidx]
          have HN := Lib.hid hno
          clear hidx hno
          refine Lib.hid ?_
          go_wp2
          go_roundg (gk - 1)
          case measure => omega
          case rel =>
            have hf := HQ.out.1.no (canonOf tk) (by rw [← HS.out.1.key.keys]; exact HN.out)
            have hrel : RelK K (updF (runM (ts.take k)).1 (canonOf tk) []) := by
              have : updF (runM (ts.take k)).1 (canonOf tk) [] = (runM (ts.take k)).1 := by
                funext c'
                by_cases e : c' = canonOf tk
                · subst e; rw [updF_same, hf]
                · rw [updF_other _ _ e]
              rw [this]; exact HQ.out.1
            exact ⟨k + 1, by omega, by go_num, Lib.hid (SpAt.next (s := (updF (runM (ts.take k)).1 (canonOf tk) [], (runM (ts.take k)).2)) HS.out.1 hrel (Nat.le_succ_of_le HQ.out.2.1) HQ.out.2.2.1), HS.out.2⟩
      · by_cases hge : tc = getB
        · subst hge
          have hvl : (vs.length + 1) * 24 ≤ 140737488355328 := by have := HS.out.1.outs.rows.1; have := HQ.out.2.2.2.1; omega
          have HV := Lib.hid HS.out.1.outs
          rcases keyIdx_cases E (canonOf tk) with ⟨i, hi, hidx, u, hu⟩ | ⟨hidx, hno⟩
          · rw [hidx]
            obtain ⟨ge, rfl, hxE⟩ := obtainKR HS.out.1.key (by rintro rfl; simp at hi)
            obtain ⟨l0, hl0⟩ := findIdx_E HS.out.1.key.keys hu
            obtain ⟨AU, cU, hue, _, _, hsl, _⟩ := HS.out.1.key.vals.2 i u l0 (by rw [List.getElem?_map, hu]; rfl) (by rw [List.getElem?_map, hl0]; rfl)
            have hlne := HQ.out.1.ne i _ hl0
            have hfe := HQ.out.1.at_ i _ hl0
            have cK := (hxE i _ hu).2
            rcases l0 with _ | ⟨s0, t0⟩
            · exact absurd rfl hlne
            · obtain ⟨gu, ou, rfl, hcu⟩ := hsl (by simp)
              have cS : w2.cell? ⟨gu, ou, none⟩ = some (.string ⟨s0.toArray⟩) := hcu 0 s0 rfl
              simp only at cK
              rw [hue] at cK
              simp only [List.length_cons] at cK
              have HFF := Lib.hid (show firstOf ((runM (ts.take k)).1 (canonOf tk)) = s0 by rw [hfe]; rfl)
              have hil : E.length ≤ 2500000000 := by have := HQ.out.2.1; have := HQ.out.2.2.2.2.2; omega
              clear hxE hl0 hue hlne hfe hcu hsl hu hidx
              refine Lib.hid ?_
              go_wp2_with ((with_reducible refine at_appendV ?_); refine wpList_append_V1 rfl _ _ _ Try.underlying30 rfl w.heap.size (.slice A0 vs.length c00) vs rfl ((HV.out.own.of_blocks (fun x _ hl => heap_alloc_old _ _ hl)).alloc _) _ (.slice (some ⟨w2.heap.size, 0, none⟩) 1 1) 1 rfl rfl (by simp) hvl (by simp; omega) _ rfl ?_; intro A4 c4 w4 hap; have H4 := Lib.hid hap; clear hap)
              go_roundg (gk - 1)
              case measure => omega
              case rel =>
                have hu2 := SL.one w2 s0 9
                obtain ⟨N', hn'⟩ := HS.out.1.push ((Below.refl _ _).alloc (Nat.le_refl _) _) (u := .slice (some ⟨w2.heap.size, 0, none⟩) 1 1) (l := [s0])
                  ⟨_, _, rfl, Nat.le_refl _, by decide, hu2, fun g o e _ => .inr (by injection e with e; injection e with e _; omega)⟩ H4.out
                have hff : firstOf ((runM (ts.take k)).1 (canonOf tk)) = s0 := HFF.out
                refine ⟨k + 1, by omega, by go_num, Lib.hid (SpAt.next (s := ((runM (ts.take k)).1, (runM (ts.take k)).2 ++ [[s0]])) hn' HQ.out.1 (Nat.le_succ_of_le HQ.out.2.1) (by rw [← hff]; exact HQ.out.2.2.1)), ?_⟩
                exact (HS.out.2.trans (((Below.refl _ _).alloc hsz2 _).alloc (by simp; omega) _)).trans (H4.out.below ((HV.out.own.of_blocks (fun x _ hl => heap_alloc_old _ _ hl)).alloc _) (by simp; omega))
          · rw [hidx]
            have HN := Lib.hid hno
            have HFF := Lib.hid (show firstOf ((runM (ts.take k)).1 (canonOf tk)) = [] by rw [HQ.out.1.no (canonOf tk) (by rw [← HS.out.1.key.keys]; exact HN.out)]; rfl)
            clear hidx hno
            · refine Lib.hid ?_
              go_wp2_with ((with_reducible refine at_appendV ?_); refine wpList_append_V1 rfl _ _ _ Try.underlying30 rfl w.heap.size (.slice A0 vs.length c00) vs rfl ((HV.out.own.of_blocks (fun x _ hl => heap_alloc_old _ _ hl)).alloc _) _ (.slice (some ⟨w2.heap.size, 0, none⟩) 1 1) 1 rfl rfl (by simp) hvl (by simp; omega) _ rfl ?_; intro A4 c4 w4 hap; have H4 := Lib.hid hap; clear hap)
              go_roundg (gk - 1)
              case measure => omega
              case rel =>
                have hu2 := SL.one w2 ([] : List UInt8) 9
                obtain ⟨N', hn'⟩ := HS.out.1.push ((Below.refl _ _).alloc (Nat.le_refl _) _) (u := .slice (some ⟨w2.heap.size, 0, none⟩) 1 1) (l := [([] : List UInt8)])
                  ⟨_, _, rfl, Nat.le_refl _, by decide, hu2, fun g o e _ => .inr (by injection e with e; injection e with e _; omega)⟩ H4.out
                have hff : firstOf ((runM (ts.take k)).1 (canonOf tk)) = ([] : List UInt8) := HFF.out
                refine ⟨k + 1, by omega, by go_num, Lib.hid (SpAt.next (s := ((runM (ts.take k)).1, (runM (ts.take k)).2 ++ [[([] : List UInt8)]])) hn' HQ.out.1 (Nat.le_succ_of_le HQ.out.2.1) (by rw [← hff]; exact HQ.out.2.2.1)), ?_⟩
                exact (HS.out.2.trans (((Below.refl _ _).alloc hsz2 _).alloc (by simp; omega) _)).trans (H4.out.below ((HV.out.own.of_blocks (fun x _ hl => heap_alloc_old _ _ hl)).alloc _) (by simp; omega))
        · by_cases hva : tc = valuesB
          · subst hva
            have hvl : (vs.length + 1) * 24 ≤ 140737488355328 := by have := HS.out.1.outs.rows.1; have := HQ.out.2.2.2.1; omega
            have HV := Lib.hid HS.out.1.outs
            rcases keyIdx_cases E (canonOf tk) with ⟨i, hi, hidx, u, hu⟩ | ⟨hidx, hno⟩
            · rw [hidx]
              obtain ⟨ge, rfl, hxE⟩ := obtainKR HS.out.1.key (by rintro rfl; simp at hi)
              obtain ⟨l0, hl0⟩ := findIdx_E HS.out.1.key.keys hu
              have hsv := HS.out.1.key.vals.2 i u l0 (by rw [List.getElem?_map, hu]; rfl) (by rw [List.getElem?_map, hl0]; rfl)
              obtain ⟨AU, cU, hue, _⟩ := id hsv
              have hfe := HQ.out.1.at_ i _ hl0
              have cK := (hxE i _ hu).2
              simp only at cK
              rw [hue] at cK hsv
              have HU := Lib.hid hsv
              have HFF := Lib.hid (show (runM (ts.take k)).1 (canonOf tk) = l0 from hfe)
              have hil : E.length ≤ 2500000000 := by have := HQ.out.2.1; have := HQ.out.2.2.2.2.2; omega
              clear hxE hl0 hue hfe hu hidx hsv
              · refine Lib.hid ?_
                go_wp2_with ((with_reducible refine at_appendV ?_); refine wpList_append_V1 rfl _ _ _ Try.underlying30 rfl w.heap.size (.slice A0 vs.length c00) vs rfl (HV.out.own.alloc _) _ (.slice AU l0.length cU) 1 rfl rfl (by simp) hvl (by simp; omega) _ rfl ?_; intro A4 c4 w4 hap; have H4 := Lib.hid hap; clear hap)
                go_roundg (gk - 1)
                case measure => omega
                case rel =>
                  obtain ⟨N', hn'⟩ := HS.out.1.push (Below.refl _ _) (u := .slice AU l0.length cU) (l := l0) (HU.out.of (fun _ _ _ => rfl) (fun _ hx _ => .inl hx)) H4.out
                  have hff : (runM (ts.take k)).1 (canonOf tk) = l0 := HFF.out
                  refine ⟨k + 1, by omega, by go_num, Lib.hid (SpAt.next (s := ((runM (ts.take k)).1, (runM (ts.take k)).2 ++ [l0])) hn' HQ.out.1 (Nat.le_succ_of_le HQ.out.2.1) (by rw [← hff]; exact HQ.out.2.2.1)), ?_⟩
                  exact (HS.out.2.trans ((Below.refl _ _).alloc hsz2 _)).trans (H4.out.below (HV.out.own.alloc _) (by simp; omega))
            · rw [hidx]
              have HN := Lib.hid hno
              have HFF := Lib.hid (show (runM (ts.take k)).1 (canonOf tk) = [] from HQ.out.1.no (canonOf tk) (by rw [← HS.out.1.key.keys]; exact HN.out))
              have HU := Lib.hid (SVal.nil w2 (fun g => N g ∧ (Value.slice A0 vs.length c00).ownBlock ≠ some g))
              clear hidx hno
              · refine Lib.hid ?_
                go_wp2_with ((with_reducible refine at_appendV ?_); refine wpList_append_V1 rfl _ _ _ Try.underlying30 rfl w.heap.size (.slice A0 vs.length c00) vs rfl (HV.out.own.alloc _) _ (.slice none 0 0) 1 rfl rfl (by simp) hvl (by simp; omega) _ rfl ?_; intro A4 c4 w4 hap; have H4 := Lib.hid hap; clear hap)
                go_roundg (gk - 1)
                case measure => omega
                case rel =>
                  obtain ⟨N', hn'⟩ := HS.out.1.push (Below.refl _ _) (u := .slice none 0 0) (l := ([] : List (List UInt8))) (HU.out.of (fun _ _ _ => rfl) (fun _ hx _ => .inl hx)) H4.out
                  have hff : (runM (ts.take k)).1 (canonOf tk) = ([] : List (List UInt8)) := HFF.out
                  refine ⟨k + 1, by omega, by go_num, Lib.hid (SpAt.next (s := ((runM (ts.take k)).1, (runM (ts.take k)).2 ++ [([] : List (List UInt8))])) hn' HQ.out.1 (Nat.le_succ_of_le HQ.out.2.1) (by rw [← hff]; exact HQ.out.2.2.1)), ?_⟩
                  exact (HS.out.2.trans ((Below.refl _ _).alloc hsz2 _)).trans (H4.out.below (HV.out.own.alloc _) (by simp; omega))
          · by_cases has : tc = addB ∨ tc = setB
            · rcases has with rfl | rfl
              · skip
                refine Lib.hid ?_
                go_upto_if 27 with (fail)
                go_cut [8] (fun u8 wx => ∃ (i : Nat) (l0 : List (List UInt8)), u8 = .int .i64 i ∧ i ≤ 2500000000 ∧ l0.length ≤ k ∧ Hid ((runM (ts.take k)).1 (canonOf tk) = l0) ∧ Hid (SpMid w.heap.size P i (.slice A0 vs.length c00) vs (runM (ts.take k)).1 (runM (ts.take k)).2 ⟨addB, tk, tv⟩ l0 (k + 1) w wx))
                case first =>
                  rcases keyIdx_cases E (canonOf tk) with ⟨i, hi, hidx, u, hu⟩ | ⟨hidx, hno⟩
                  · rw [hidx]
                    obtain ⟨l0, hl0⟩ := findIdx_E HS.out.1.key.keys hu
                    have hfe := HQ.out.1.at_ i _ hl0
                    have HFE := Lib.hid (show (runM (ts.take k)).1 (canonOf tk) = l0 from hfe)
                    have hll : l0.length ≤ k := by have := HQ.out.2.2.2.2.1 (canonOf tk); rw [hfe] at this; exact this
                    have hil : i ≤ 2500000000 := by have := HQ.out.2.1; have := HQ.out.2.2.2.2.2; omega
                    have HM := Lib.hid (show SpMid w.heap.size P i (.slice A0 vs.length c00) vs (runM (ts.take k)).1 (runM (ts.take k)).2 ⟨addB, tk, tv⟩ l0 (k + 1) w w2 from ⟨⟨N, _, E, K, u, HS.out.1, hu, hl0, Nat.le_succ_of_le HQ.out.2.1, HPP.out.2, fun l hl => HQ.out.1.set hl0 hl⟩, HPP.out.1, HS.out.2, e0, e1, e2⟩)
                    clear hu hl0 hfe hidx
                    go_wp2
                    go_meet
                    case rel => exact ⟨i, l0, rfl, hil, hll, HFE, HM⟩
                  · rw [hidx]
                    go_upto_region 13 with (fail)
                    have HC := Lib.hid (fun W => specCanon_any tk hkl W)
                    refine wp_region_held_drew (S := fun wx => wx.cell? ⟨P, 1, none⟩ = some (.string ⟨tk.toArray⟩)) (by kernel_rfl) e1 (fun hHeld => ?_)
                    refine wpAnyH_take (i := 1) (v := ?v1x1) rfl (by kernel_rfl) (by kernel_rfl) (by kernel_rfl) (fun _ _ _ h => h) (Or.inl ⟨by rfl, ?h1x1⟩) (by assumption) ?r1x1
                    case h1x1 => (intro w hSw; (try dsimp only at hSw); go_simp; (try with_reducible rfl))
                    (try simp only [List.getElem_toArray, List.getElem_cons_succ, List.getElem_cons_zero, Act.put, List.setIfInBounds_toArray, List.set_cons_zero, List.set_cons_succ])
                    refine wpAnyH_take (i := 2) (v := ?v2x2) rfl (by kernel_rfl) (by kernel_rfl) (by kernel_rfl) (fun _ _ _ h => h) (Or.inl ⟨by rfl, ?h2x2⟩) (by assumption) ?r2x2
                    case h2x2 => (intro w hSw; (try dsimp only at hSw); go_simp; (try with_reducible rfl))
                    (try simp only [List.getElem_toArray, List.getElem_cons_succ, List.getElem_cons_zero, Act.put, List.setIfInBounds_toArray, List.set_cons_zero, List.set_cons_succ])
                    refine wpAnyH_ready (rs := [0, 3]) (by kernel_rfl) (by simp) ?_
                    refine AllReadyH.cons rfl (fun K hK => ?_) (AllReadyH.cons rfl (fun K hK => ?_) AllReadyH.nil)
                    · go_simp
                      refine hK.out _ _ (by assumption) (fun _ => ?_)
                      clear hK K
                      (try simp only [List.getElem_toArray, List.getElem_cons_succ, List.getElem_cons_zero, Act.put, List.setIfInBounds_toArray, List.set_cons_zero, List.set_cons_succ])
                      refine wpAnyH_ready (rs := [3]) (by kernel_rfl) (by simp) ?_
                      refine AllReadyH.cons rfl (fun K hK => ?_) AllReadyH.nil
                      go_simp
                      go_wp2_with (go_at_call 16; refine (HC.out _).mono ?_; rintro e w3 ⟨rfl, hb3⟩)
                      have e13 : w3.cell? ⟨P, 1, none⟩ = some (.string ⟨tk.toArray⟩) := (hb3.cell (p := ⟨P, 1, none⟩) (World.block_lt_of_cell? _ _ e1)).trans e1
                      have cB3 : w3.cell? ⟨w.heap.size, 0, none⟩ = some (.slice AE E.length cE) := (hb3.cell (p := ⟨w.heap.size, 0, none⟩) (World.block_lt_of_cell? _ _ cB)).trans cB
                      have cB4 := Lib.cell?_alloc_some (.cells #[.string ⟨(canonOf tk).toArray⟩, .slice none 0 0] 45) cB3
                      have e14 := Lib.cell?_alloc_some (.cells #[.string ⟨(canonOf tk).toArray⟩, .slice none 0 0] 45) e13
                      refine hK.out _ _ e13 (fun _ => ?_)
                      clear hK K
                      (try simp only [List.getElem_toArray, List.getElem_cons_succ, List.getElem_cons_zero, Act.put, List.setIfInBounds_toArray, List.set_cons_zero, List.set_cons_succ])
                      refine wpAnyH_take (i := 4) (v := ?v4x3) rfl (by kernel_rfl) (by kernel_rfl) (by kernel_rfl) (fun _ _ _ h => h) (Or.inl ⟨by rfl, ?h4x3⟩) (by assumption) ?r4x3
                      case h4x3 => (intro w hSw; (try dsimp only at hSw); go_simp; (try with_reducible rfl))
                      (try simp only [List.getElem_toArray, List.getElem_cons_succ, List.getElem_cons_zero, Act.put, List.setIfInBounds_toArray, List.set_cons_zero, List.set_cons_succ])
                      refine wpAnyH_ready (rs := [5]) (by kernel_rfl) (by simp) ?_
                      refine AllReadyH.cons rfl (fun K hK => ?_) AllReadyH.nil
                      go_simp
                      refine hK.out _ _ e14 (fun _ => ?_)
                      clear hK K
                      (try simp only [List.getElem_toArray, List.getElem_cons_succ, List.getElem_cons_zero, Act.put, List.setIfInBounds_toArray, List.set_cons_zero, List.set_cons_succ])
                      have hB0 : Below w2.heap.size w2 (w3.alloc (.cells #[.string ⟨(canonOf tk).toArray⟩, .slice none 0 0] 45)) := ((Below.refl w2.heap.size w2).drew.trans hb3).alloc hb3.size _
                      obtain ⟨kv6, w6, hrun6, ho6, hg6, hat6⟩ := run_append_E 43 (w3.alloc (.cells #[.string ⟨(canonOf tk).toArray⟩, .slice none 0 0] 45)) w.heap.size (.slice AE E.length cE) E (HS.out.1.key.own.of_blocks (fun x _ hl => hB0.block x hl)) w3.heap.size 1 (canonOf tk) (.slice none 0 0) rfl (Blk.cell (t := 45) (heap_alloc_new w3 _) 0) (Blk.cell (t := 45) (heap_alloc_new w3 _) 1) (by have := HQ.out.2.1; have := HQ.out.2.2.2.2.2; omega) (Nat.le_trans hsz2 hB0.size)
                      obtain ⟨A6, cc6, hk6, hk6l, hk6c, _, _⟩ := ho6.form
                      obtain rfl : kv6 = .slice A6 (E.length + 1) cc6 := by rw [hk6]; simp
                      clear hk6 hk6l hk6c
                      have hnew := HS.out.1.added hsz2 hB0 ho6 hg6 hat6
                      have e16 := (World.cell?_of_block (a := ⟨P, 1, none⟩) (hg6.block P (World.block_lt_of_cell? _ _ e14) (fun e => HPP.out.2 P e.symm rfl))).trans e14
                      have hb6 := hg6.block w.heap.size (World.block_lt_of_cell? _ _ cB4) (fun e => (HS.out.1.key.out _ e.symm).2 rfl)
                      have c6 := (World.cell?_of_block (a := ⟨w.heap.size, 0, none⟩) hb6).trans cB4
                      have f6 : w6.frozen? ⟨w.heap.size, 0, none⟩ = false := (World.frozen?_of_block (a := ⟨w.heap.size, 0, none⟩) (hb6.trans (hB0.block _ HS.out.1.key.ltB))).trans fB
                      have e17 : (w6.setCell ⟨w.heap.size, 0, none⟩ (.slice A6 (E.length + 1) cc6)).cell? ⟨P, 1, none⟩ = some (.string ⟨tk.toArray⟩) := (World.cell?_setCell_far _ _ _ _ HPP.out.1).trans e16
                      have hbP : (w6.setCell ⟨w.heap.size, 0, none⟩ (.slice A6 (E.length + 1) cc6)).heap[P]? = w2.heap[P]? := (Below.heap_setCell _ _ _ _ (fun e => HPP.out.1 e.symm)).trans ((hg6.block P (World.block_lt_of_cell? _ _ e14) (fun e => HPP.out.2 P e.symm rfl)).trans (hB0.block P (World.block_lt_of_cell? _ _ e1)))
                      have hown6 : ∀ x, (Value.slice A6 (E.length + 1) cc6).ownBlock = some x → x ≠ P := fun x hx => by
                        rcases hat6 with h | h
                        · exact HPP.out.2 x (h ▸ hx)
                        · rw [h] at hx; injection hx with hx; exact fun e => absurd (World.block_lt_of_cell? _ _ e14) (by rw [hx, e]; exact Nat.lt_irrefl _)
                      have HNW := Lib.hid (And.intro hnew (And.intro hbP (And.intro hB0 (And.intro hrun6 hown6))))
                      have HKN := Lib.hid hno
                      clear hnew hbP hown6 hg6 hB0 hrun6 ho6 hat6 hb6 hb3 hno
                      refine wpAnyH_ready (rs := [6]) (by kernel_rfl) (by simp) ?_
                      refine AllReadyH.cons rfl (fun K hK => ?_) AllReadyH.nil
                      rw [if_pos (by rfl)]
                      refine Lib.wp_append_run _ (.tmp 30) (.tmp 35) 43 43 rfl _ _ rfl rfl _ _ HNW.out.2.2.2.1 ?_
                      refine hK.out _ _ e16 (fun _ => ?_)
                      clear hK K
                      (try simp only [List.getElem_toArray, List.getElem_cons_succ, List.getElem_cons_zero, Act.put, List.setIfInBounds_toArray, List.set_cons_zero, List.set_cons_succ])
                      refine wpAnyH_ready (rs := [7]) (by kernel_rfl) (by simp) ?_
                      refine AllReadyH.cons rfl (fun K hK => ?_) AllReadyH.nil
                      go_simp
                      refine hK.out _ _ e17 (fun _ => ?_)
                      clear hK K
                      (try simp only [List.getElem_toArray, List.getElem_cons_succ, List.getElem_cons_zero, Act.put, List.setIfInBounds_toArray, List.set_cons_zero, List.set_cons_succ])
                      refine wpAnyH_done (by kernel_rfl) ?_ _
                      go_wp2
                      go_meet
                      case rel =>
                        have hkl2 := HQ.out.2.2.2.2.2
                        have hkk := HQ.out.2.1
                        refine ⟨E.length, [], rfl, by omega, Nat.zero_le _, Lib.hid (HQ.out.1.no (canonOf tk) (by rw [← HS.out.1.key.keys]; exact HKN.out)), Lib.hid ⟨⟨N, _, E ++ [(canonOf tk, .slice none 0 0)], K ++ [(canonOf tk, [])], .slice none 0 0, HNW.out.1.1, by simp, by rw [hkl2]; simp, by simp; omega, HNW.out.2.2.2.2, fun l hl => ?_⟩, HPP.out.1, HS.out.2.trans HNW.out.1.2, (World.cell?_of_block (w := w2) (a := ⟨P, 0, none⟩) HNW.out.2.1).trans e0, (World.cell?_of_block (w := w2) (a := ⟨P, 1, none⟩) HNW.out.2.1).trans e1, (World.cell?_of_block (w := w2) (a := ⟨P, 2, none⟩) HNW.out.2.1).trans e2⟩⟩
                        rw [hkl2, show (K ++ [(canonOf tk, ([] : List (List UInt8)))]).set K.length (canonOf tk, l) = K ++ [(canonOf tk, l)] by simp]
                        exact HQ.out.1.snoc (by rw [← HS.out.1.key.keys]; exact HKN.out) hl
                    · go_simp
                      go_wp2_with (go_at_call 16; refine (HC.out _).mono ?_; rintro e w3 ⟨rfl, hb3⟩)
                      have e13 : w3.cell? ⟨P, 1, none⟩ = some (.string ⟨tk.toArray⟩) := (hb3.cell (p := ⟨P, 1, none⟩) (World.block_lt_of_cell? _ _ e1)).trans e1
                      have cB3 : w3.cell? ⟨w.heap.size, 0, none⟩ = some (.slice AE E.length cE) := (hb3.cell (p := ⟨w.heap.size, 0, none⟩) (World.block_lt_of_cell? _ _ cB)).trans cB
                      have cB4 := Lib.cell?_alloc_some (.cells #[.string ⟨(canonOf tk).toArray⟩, .slice none 0 0] 45) cB3
                      have e14 := Lib.cell?_alloc_some (.cells #[.string ⟨(canonOf tk).toArray⟩, .slice none 0 0] 45) e13
                      refine hK.out _ _ e13 (fun _ => ?_)
                      clear hK K
                      (try simp only [List.getElem_toArray, List.getElem_cons_succ, List.getElem_cons_zero, Act.put, List.setIfInBounds_toArray, List.set_cons_zero, List.set_cons_succ])
                      refine wpAnyH_take (i := 4) (v := ?v4x4) rfl (by kernel_rfl) (by kernel_rfl) (by kernel_rfl) (fun _ _ _ h => h) (Or.inl ⟨by rfl, ?h4x4⟩) (by assumption) ?r4x4
                      case h4x4 => (intro w hSw; (try dsimp only at hSw); go_simp; (try with_reducible rfl))
                      (try simp only [List.getElem_toArray, List.getElem_cons_succ, List.getElem_cons_zero, Act.put, List.setIfInBounds_toArray, List.set_cons_zero, List.set_cons_succ])
                      refine wpAnyH_ready (rs := [0, 5]) (by kernel_rfl) (by simp) ?_
                      refine AllReadyH.cons rfl (fun K hK => ?_) (AllReadyH.cons rfl (fun K hK => ?_) AllReadyH.nil)
                      · go_simp
                        refine hK.out _ _ (by assumption) (fun _ => ?_)
                        clear hK K
                        (try simp only [List.getElem_toArray, List.getElem_cons_succ, List.getElem_cons_zero, Act.put, List.setIfInBounds_toArray, List.set_cons_zero, List.set_cons_succ])
                        refine wpAnyH_ready (rs := [5]) (by kernel_rfl) (by simp) ?_
                        refine AllReadyH.cons rfl (fun K hK => ?_) AllReadyH.nil
                        go_simp
                        refine hK.out _ _ e14 (fun _ => ?_)
                        clear hK K
                        (try simp only [List.getElem_toArray, List.getElem_cons_succ, List.getElem_cons_zero, Act.put, List.setIfInBounds_toArray, List.set_cons_zero, List.set_cons_succ])
                        have hB0 : Below w2.heap.size w2 (w3.alloc (.cells #[.string ⟨(canonOf tk).toArray⟩, .slice none 0 0] 45)) := ((Below.refl w2.heap.size w2).drew.trans hb3).alloc hb3.size _
                        obtain ⟨kv6, w6, hrun6, ho6, hg6, hat6⟩ := run_append_E 43 (w3.alloc (.cells #[.string ⟨(canonOf tk).toArray⟩, .slice none 0 0] 45)) w.heap.size (.slice AE E.length cE) E (HS.out.1.key.own.of_blocks (fun x _ hl => hB0.block x hl)) w3.heap.size 1 (canonOf tk) (.slice none 0 0) rfl (Blk.cell (t := 45) (heap_alloc_new w3 _) 0) (Blk.cell (t := 45) (heap_alloc_new w3 _) 1) (by have := HQ.out.2.1; have := HQ.out.2.2.2.2.2; omega) (Nat.le_trans hsz2 hB0.size)
                        obtain ⟨A6, cc6, hk6, hk6l, hk6c, _, _⟩ := ho6.form
                        obtain rfl : kv6 = .slice A6 (E.length + 1) cc6 := by rw [hk6]; simp
                        clear hk6 hk6l hk6c
                        have hnew := HS.out.1.added hsz2 hB0 ho6 hg6 hat6
                        have e16 := (World.cell?_of_block (a := ⟨P, 1, none⟩) (hg6.block P (World.block_lt_of_cell? _ _ e14) (fun e => HPP.out.2 P e.symm rfl))).trans e14
                        have hb6 := hg6.block w.heap.size (World.block_lt_of_cell? _ _ cB4) (fun e => (HS.out.1.key.out _ e.symm).2 rfl)
                        have c6 := (World.cell?_of_block (a := ⟨w.heap.size, 0, none⟩) hb6).trans cB4
                        have f6 : w6.frozen? ⟨w.heap.size, 0, none⟩ = false := (World.frozen?_of_block (a := ⟨w.heap.size, 0, none⟩) (hb6.trans (hB0.block _ HS.out.1.key.ltB))).trans fB
                        have e17 : (w6.setCell ⟨w.heap.size, 0, none⟩ (.slice A6 (E.length + 1) cc6)).cell? ⟨P, 1, none⟩ = some (.string ⟨tk.toArray⟩) := (World.cell?_setCell_far _ _ _ _ HPP.out.1).trans e16
                        have hbP : (w6.setCell ⟨w.heap.size, 0, none⟩ (.slice A6 (E.length + 1) cc6)).heap[P]? = w2.heap[P]? := (Below.heap_setCell _ _ _ _ (fun e => HPP.out.1 e.symm)).trans ((hg6.block P (World.block_lt_of_cell? _ _ e14) (fun e => HPP.out.2 P e.symm rfl)).trans (hB0.block P (World.block_lt_of_cell? _ _ e1)))
                        have hown6 : ∀ x, (Value.slice A6 (E.length + 1) cc6).ownBlock = some x → x ≠ P := fun x hx => by
                          rcases hat6 with h | h
                          · exact HPP.out.2 x (h ▸ hx)
                          · rw [h] at hx; injection hx with hx; exact fun e => absurd (World.block_lt_of_cell? _ _ e14) (by rw [hx, e]; exact Nat.lt_irrefl _)
                        have HNW := Lib.hid (And.intro hnew (And.intro hbP (And.intro hB0 (And.intro hrun6 hown6))))
                        have HKN := Lib.hid hno
                        clear hnew hbP hown6 hg6 hB0 hrun6 ho6 hat6 hb6 hb3 hno
                        refine wpAnyH_ready (rs := [6]) (by kernel_rfl) (by simp) ?_
                        refine AllReadyH.cons rfl (fun K hK => ?_) AllReadyH.nil
                        rw [if_pos (by rfl)]
                        refine Lib.wp_append_run _ (.tmp 30) (.tmp 35) 43 43 rfl _ _ rfl rfl _ _ HNW.out.2.2.2.1 ?_
                        refine hK.out _ _ e16 (fun _ => ?_)
                        clear hK K
                        (try simp only [List.getElem_toArray, List.getElem_cons_succ, List.getElem_cons_zero, Act.put, List.setIfInBounds_toArray, List.set_cons_zero, List.set_cons_succ])
                        refine wpAnyH_ready (rs := [7]) (by kernel_rfl) (by simp) ?_
                        refine AllReadyH.cons rfl (fun K hK => ?_) AllReadyH.nil
                        go_simp
                        refine hK.out _ _ e17 (fun _ => ?_)
                        clear hK K
                        (try simp only [List.getElem_toArray, List.getElem_cons_succ, List.getElem_cons_zero, Act.put, List.setIfInBounds_toArray, List.set_cons_zero, List.set_cons_succ])
                        refine wpAnyH_done (by kernel_rfl) ?_ _
                        go_wp2
                        go_meet
                        case rel =>
                          have hkl2 := HQ.out.2.2.2.2.2
                          have hkk := HQ.out.2.1
                          refine ⟨E.length, [], rfl, by omega, Nat.zero_le _, Lib.hid (HQ.out.1.no (canonOf tk) (by rw [← HS.out.1.key.keys]; exact HKN.out)), Lib.hid ⟨⟨N, _, E ++ [(canonOf tk, .slice none 0 0)], K ++ [(canonOf tk, [])], .slice none 0 0, HNW.out.1.1, by simp, by rw [hkl2]; simp, by simp; omega, HNW.out.2.2.2.2, fun l hl => ?_⟩, HPP.out.1, HS.out.2.trans HNW.out.1.2, (World.cell?_of_block (w := w2) (a := ⟨P, 0, none⟩) HNW.out.2.1).trans e0, (World.cell?_of_block (w := w2) (a := ⟨P, 1, none⟩) HNW.out.2.1).trans e1, (World.cell?_of_block (w := w2) (a := ⟨P, 2, none⟩) HNW.out.2.1).trans e2⟩⟩
                          rw [hkl2, show (K ++ [(canonOf tk, ([] : List (List UInt8)))]).set K.length (canonOf tk, l) = K ++ [(canonOf tk, l)] by simp]
                          exact HQ.out.1.snoc (by rw [← HS.out.1.key.keys]; exact HKN.out) hl
                      · go_simp
                        refine hK.out _ _ e14 (fun _ => ?_)
                        clear hK K
                        (try simp only [List.getElem_toArray, List.getElem_cons_succ, List.getElem_cons_zero, Act.put, List.setIfInBounds_toArray, List.set_cons_zero, List.set_cons_succ])
                        refine wpAnyH_ready (rs := [0]) (by kernel_rfl) (by simp) ?_
                        refine AllReadyH.cons rfl (fun K hK => ?_) AllReadyH.nil
                        go_simp
                        refine hK.out _ _ (by assumption) (fun _ => ?_)
                        clear hK K
                        (try simp only [List.getElem_toArray, List.getElem_cons_succ, List.getElem_cons_zero, Act.put, List.setIfInBounds_toArray, List.set_cons_zero, List.set_cons_succ])
                        have hB0 : Below w2.heap.size w2 (w3.alloc (.cells #[.string ⟨(canonOf tk).toArray⟩, .slice none 0 0] 45)) := ((Below.refl w2.heap.size w2).drew.trans hb3).alloc hb3.size _
                        obtain ⟨kv6, w6, hrun6, ho6, hg6, hat6⟩ := run_append_E 43 (w3.alloc (.cells #[.string ⟨(canonOf tk).toArray⟩, .slice none 0 0] 45)) w.heap.size (.slice AE E.length cE) E (HS.out.1.key.own.of_blocks (fun x _ hl => hB0.block x hl)) w3.heap.size 1 (canonOf tk) (.slice none 0 0) rfl (Blk.cell (t := 45) (heap_alloc_new w3 _) 0) (Blk.cell (t := 45) (heap_alloc_new w3 _) 1) (by have := HQ.out.2.1; have := HQ.out.2.2.2.2.2; omega) (Nat.le_trans hsz2 hB0.size)
                        obtain ⟨A6, cc6, hk6, hk6l, hk6c, _, _⟩ := ho6.form
                        obtain rfl : kv6 = .slice A6 (E.length + 1) cc6 := by rw [hk6]; simp
                        clear hk6 hk6l hk6c
                        have hnew := HS.out.1.added hsz2 hB0 ho6 hg6 hat6
                        have e16 := (World.cell?_of_block (a := ⟨P, 1, none⟩) (hg6.block P (World.block_lt_of_cell? _ _ e14) (fun e => HPP.out.2 P e.symm rfl))).trans e14
                        have hb6 := hg6.block w.heap.size (World.block_lt_of_cell? _ _ cB4) (fun e => (HS.out.1.key.out _ e.symm).2 rfl)
                        have c6 := (World.cell?_of_block (a := ⟨w.heap.size, 0, none⟩) hb6).trans cB4
                        have f6 : w6.frozen? ⟨w.heap.size, 0, none⟩ = false := (World.frozen?_of_block (a := ⟨w.heap.size, 0, none⟩) (hb6.trans (hB0.block _ HS.out.1.key.ltB))).trans fB
                        have e17 : (w6.setCell ⟨w.heap.size, 0, none⟩ (.slice A6 (E.length + 1) cc6)).cell? ⟨P, 1, none⟩ = some (.string ⟨tk.toArray⟩) := (World.cell?_setCell_far _ _ _ _ HPP.out.1).trans e16
                        have hbP : (w6.setCell ⟨w.heap.size, 0, none⟩ (.slice A6 (E.length + 1) cc6)).heap[P]? = w2.heap[P]? := (Below.heap_setCell _ _ _ _ (fun e => HPP.out.1 e.symm)).trans ((hg6.block P (World.block_lt_of_cell? _ _ e14) (fun e => HPP.out.2 P e.symm rfl)).trans (hB0.block P (World.block_lt_of_cell? _ _ e1)))
                        have hown6 : ∀ x, (Value.slice A6 (E.length + 1) cc6).ownBlock = some x → x ≠ P := fun x hx => by
                          rcases hat6 with h | h
                          · exact HPP.out.2 x (h ▸ hx)
                          · rw [h] at hx; injection hx with hx; exact fun e => absurd (World.block_lt_of_cell? _ _ e14) (by rw [hx, e]; exact Nat.lt_irrefl _)
                        have HNW := Lib.hid (And.intro hnew (And.intro hbP (And.intro hB0 (And.intro hrun6 hown6))))
                        have HKN := Lib.hid hno
                        clear hnew hbP hown6 hg6 hB0 hrun6 ho6 hat6 hb6 hb3 hno
                        refine wpAnyH_ready (rs := [6]) (by kernel_rfl) (by simp) ?_
                        refine AllReadyH.cons rfl (fun K hK => ?_) AllReadyH.nil
                        rw [if_pos (by rfl)]
                        refine Lib.wp_append_run _ (.tmp 30) (.tmp 35) 43 43 rfl _ _ rfl rfl _ _ HNW.out.2.2.2.1 ?_
                        refine hK.out _ _ e16 (fun _ => ?_)
                        clear hK K
                        (try simp only [List.getElem_toArray, List.getElem_cons_succ, List.getElem_cons_zero, Act.put, List.setIfInBounds_toArray, List.set_cons_zero, List.set_cons_succ])
                        refine wpAnyH_ready (rs := [7]) (by kernel_rfl) (by simp) ?_
                        refine AllReadyH.cons rfl (fun K hK => ?_) AllReadyH.nil
                        go_simp
                        refine hK.out _ _ e17 (fun _ => ?_)
                        clear hK K
                        (try simp only [List.getElem_toArray, List.getElem_cons_succ, List.getElem_cons_zero, Act.put, List.setIfInBounds_toArray, List.set_cons_zero, List.set_cons_succ])
                        refine wpAnyH_done (by kernel_rfl) ?_ _
                        go_wp2
                        go_meet
                        case rel =>
                          have hkl2 := HQ.out.2.2.2.2.2
                          have hkk := HQ.out.2.1
                          refine ⟨E.length, [], rfl, by omega, Nat.zero_le _, Lib.hid (HQ.out.1.no (canonOf tk) (by rw [← HS.out.1.key.keys]; exact HKN.out)), Lib.hid ⟨⟨N, _, E ++ [(canonOf tk, .slice none 0 0)], K ++ [(canonOf tk, [])], .slice none 0 0, HNW.out.1.1, by simp, by rw [hkl2]; simp, by simp; omega, HNW.out.2.2.2.2, fun l hl => ?_⟩, HPP.out.1, HS.out.2.trans HNW.out.1.2, (World.cell?_of_block (w := w2) (a := ⟨P, 0, none⟩) HNW.out.2.1).trans e0, (World.cell?_of_block (w := w2) (a := ⟨P, 1, none⟩) HNW.out.2.1).trans e1, (World.cell?_of_block (w := w2) (a := ⟨P, 2, none⟩) HNW.out.2.1).trans e2⟩⟩
                          rw [hkl2, show (K ++ [(canonOf tk, ([] : List (List UInt8)))]).set K.length (canonOf tk, l) = K ++ [(canonOf tk, l)] by simp]
                          exact HQ.out.1.snoc (by rw [← HS.out.1.key.keys]; exact HKN.out) hl
                case rest =>
                  obtain ⟨i, l0, rfl, hil, hll, hfe, hmid0⟩ := hcut
                  have HR2 := Lib.hid HQ.out.2.2.1
                  have hkm : k + 1 ≤ 2500000000 := by omega
                  clear HS HQ HPP cB fB e0 e1 e2
                  have hmid := hmid0.out
                  clear hmid0
                  obtain ⟨⟨N1, kv1, E1, K1, u1, hs1, hE1, hK1, hKm, hkP, hrel1⟩, hbP, hb1, d0, d1, d2⟩ := hmid
                  have hi1 : i < E1.length := (List.getElem?_eq_some_iff.1 hE1).1
                  obtain ⟨A1, c1, rfl, hc1, hc1b, hKR1, hKB1⟩ := hs1.key.own.form
                  obtain ⟨g1, rfl, hx1⟩ := hKR1 (by rintro rfl; simp at hi1)
                  obtain ⟨_, _, cur1, hBlk1, _⟩ := hKB1 g1 0 none rfl
                  obtain ⟨AU, cU, hue, hUl, hUc, hUs, _⟩ := hs1.key.vals.2 i u1 l0 (by rw [List.getElem?_map, hE1]; rfl) (by rw [List.getElem?_map, hK1]; rfl)
                  subst hue
                  have s1 : wc.cell? ⟨g1, i * 2 + 1, none⟩ = some (.slice AU (l0).length cU) := (hx1 i _ hE1).2
                  have cB := hs1.key.cell
                  have fB := hs1.key.free
                  have fG : wc.frozen? ⟨g1, i * 2 + 1, none⟩ = false := hBlk1.free _
                  have hEl : E1.length ≤ 2500000001 := by have := hs1.key.len; omega
                  have HH1 := Lib.hid (And.intro hs1 (And.intro hE1 (And.intro hK1 (And.intro hKm (And.intro hkP (And.intro hrel1 (And.intro hbP (And.intro hb1 hUs))))))))
                  clear hs1 hE1 hK1 hKm hkP hrel1 hbP hb1 hUs hKR1 hKB1 hx1 hBlk1
                  go_upto_region 16 with (fail)
                  have HCL := Lib.hid (fun W (h : Below wc.heap.size wc W) => clone_any (c := cU) (HH1.out.2.2.2.2.2.2.2.2.below h) rfl (by have := hll; have := hkm; first | omega | (simp; done) | (simp; omega)))
                  refine wp_region_held_drew (S := fun wx => wx.cell? ⟨w.heap.size, 0, none⟩ = some (.slice (some ⟨g1, 0, none⟩) E1.length c1) ∧ wx.cell? ⟨P, 2, none⟩ = some (.string ⟨tv.toArray⟩)) (by kernel_rfl) ⟨cB, d2⟩ (fun hHeld => ?_)
                  refine wpAnyH_take (i := 0) (v := ?v0x9) rfl (by kernel_rfl) (by kernel_rfl) (by kernel_rfl) (fun _ _ _ h => h) (Or.inl ⟨by rfl, ?h0x9⟩) (by assumption) ?r0x9
                  case h0x9 => (intro w hSw; (try dsimp only at hSw); obtain ⟨hSw1, hSw2⟩ := hSw; go_simp; (try with_reducible rfl))
                  (try simp only [List.getElem_toArray, List.getElem_cons_zero, Act.put, List.setIfInBounds_toArray, List.set_cons_zero, List.set_cons_succ])
                  refine wpAnyH_take (i := 1) (v := ?v1x10) rfl (by kernel_rfl) (by kernel_rfl) (by kernel_rfl) (fun _ _ _ h => h) (Or.inl ⟨by rfl, ?h1x10⟩) (by assumption) ?r1x10
                  case h1x10 => (intro w hSw; (try dsimp only at hSw); obtain ⟨hSw1, hSw2⟩ := hSw; go_simp; (try with_reducible rfl))
                  (try simp only [List.getElem_toArray, List.getElem_cons_succ, List.getElem_cons_zero, Act.put, List.setIfInBounds_toArray, List.set_cons_zero, List.set_cons_succ])
                  refine wpAnyH_take (i := 2) (v := ?v2x11) rfl (by kernel_rfl) (by kernel_rfl) (by kernel_rfl) (fun _ _ _ h => h) (Or.inl ⟨by rfl, ?h2x11⟩) (by assumption) ?r2x11
                  case h2x11 => (intro w hSw; (try dsimp only at hSw); obtain ⟨hSw1, hSw2⟩ := hSw; go_simp; (try with_reducible rfl))
                  (try simp only [List.getElem_toArray, List.getElem_cons_succ, List.getElem_cons_zero, Act.put, List.setIfInBounds_toArray, List.set_cons_zero, List.set_cons_succ])
                  refine wpAnyH_take (i := 3) (v := ?v3x12) rfl (by kernel_rfl) (by kernel_rfl) (by kernel_rfl) (fun _ _ _ h => h) (Or.inl ⟨by rfl, ?h3x12⟩) (by assumption) ?r3x12
                  case h3x12 => (intro w hSw; (try dsimp only at hSw); obtain ⟨hSw1, hSw2⟩ := hSw; go_simp; (try with_reducible rfl))
                  (try simp only [List.getElem_toArray, List.getElem_cons_succ, List.getElem_cons_zero, Act.put, List.setIfInBounds_toArray, List.set_cons_zero, List.set_cons_succ])
                  refine wpAnyH_take (i := 4) (v := ?v4x13) rfl (by kernel_rfl) (by kernel_rfl) (by kernel_rfl) (fun _ _ _ h => h) (Or.inl ⟨by rfl, ?h4x13⟩) (by assumption) ?r4x13
                  case h4x13 => (intro w hSw; (try dsimp only at hSw); obtain ⟨hSw1, hSw2⟩ := hSw; go_simp; (try with_reducible rfl))
                  (try simp only [List.getElem_toArray, List.getElem_cons_succ, List.getElem_cons_zero, Act.put, List.setIfInBounds_toArray, List.set_cons_zero, List.set_cons_succ])
                  refine wpAnyH_take (i := 5) (v := ?v5x14) rfl (by kernel_rfl) (by kernel_rfl) (by kernel_rfl) (fun _ _ _ h => h) (Or.inl ⟨by rfl, ?h5x14⟩) (by assumption) ?r5x14
                  case h5x14 => (intro w hSw; (try dsimp only at hSw); obtain ⟨hSw1, hSw2⟩ := hSw; go_simp; (try with_reducible rfl))
                  (try simp only [List.getElem_toArray, List.getElem_cons_succ, List.getElem_cons_zero, Act.put, List.setIfInBounds_toArray, List.set_cons_zero, List.set_cons_succ])
                  refine wpAnyH_take (i := 8) (v := ?v8x15) rfl (by kernel_rfl) (by kernel_rfl) (by kernel_rfl) (fun _ _ _ h => h) (Or.inl ⟨by rfl, ?h8x15⟩) (by assumption) ?r8x15
                  case h8x15 => (intro w hSw; (try dsimp only at hSw); obtain ⟨hSw1, hSw2⟩ := hSw; go_simp; (try with_reducible rfl))
                  (try simp only [List.getElem_toArray, List.getElem_cons_succ, List.getElem_cons_zero, Act.put, List.setIfInBounds_toArray, List.set_cons_zero, List.set_cons_succ])
                  refine wpAnyH_take (i := 9) (v := ?v9x16) rfl (by kernel_rfl) (by kernel_rfl) (by kernel_rfl) (fun _ _ _ h => h) (Or.inl ⟨by rfl, ?h9x16⟩) (by assumption) ?r9x16
                  case h9x16 => (intro w hSw; (try dsimp only at hSw); obtain ⟨hSw1, hSw2⟩ := hSw; go_simp; (try with_reducible rfl))
                  (try simp only [List.getElem_toArray, List.getElem_cons_succ, List.getElem_cons_zero, Act.put, List.setIfInBounds_toArray, List.set_cons_zero, List.set_cons_succ])
                  refine wpAnyH_ready (rs := [6, 10]) (by kernel_rfl) (by simp) ?_
                  refine AllReadyH.cons rfl (fun K hK => ?_) (AllReadyH.cons rfl (fun K hK => ?_) AllReadyH.nil)
                  · go_simp
                    refine hK.out _ _ (by assumption) (fun _ => ?_)
                    clear hK K
                    (try simp only [List.getElem_toArray, List.getElem_cons_succ, List.getElem_cons_zero, Act.put, List.setIfInBounds_toArray, List.set_cons_zero, List.set_cons_succ])
                    refine wpAnyH_ready (rs := [7, 10]) (by kernel_rfl) (by simp) ?_
                    refine AllReadyH.cons rfl (fun K hK => ?_) (AllReadyH.cons rfl (fun K hK => ?_) AllReadyH.nil)
                    · skip
                      go_simp
                      go_wp2_with (go_at_call 36; refine (HCL.out _ (Below.refl wc.heap.size wc).drew).mono ?_; rintro e w3 ⟨⟨A7, c7, rfl, ho7⟩, hb7⟩)
                      have HB7 := Lib.hid (And.intro ho7 (((Below.refl wc.heap.size wc).drew).trans (hb7.mono ((Below.refl wc.heap.size wc).drew).size)))
                      have cB3 := (HB7.out.2.cell (p := ⟨w.heap.size, 0, none⟩) (World.block_lt_of_cell? _ _ cB)).trans cB
                      have d23 := (HB7.out.2.cell (p := ⟨P, 2, none⟩) (World.block_lt_of_cell? _ _ d2)).trans d2
                      refine hK.out _ _ ⟨cB3, d23⟩ (fun _ => ?_)
                      clear hK K
                      (try simp only [List.getElem_toArray, List.getElem_cons_succ, List.getElem_cons_zero, Act.put, List.setIfInBounds_toArray, List.set_cons_zero, List.set_cons_succ])
                      refine wpAnyH_ready (rs := [10]) (by kernel_rfl) (by simp) ?_
                      refine AllReadyH.cons rfl (fun K hK => ?_) AllReadyH.nil
                      go_simp
                      have cB4 := Lib.cell?_alloc_some (.cells #[.string ⟨tv.toArray⟩] 9) cB3
                      have d24 := Lib.cell?_alloc_some (.cells #[.string ⟨tv.toArray⟩] 9) d23
                      refine hK.out _ _ ⟨cB4, d24⟩ (fun _ => ?_)
                      clear hK K
                      (try simp only [List.getElem_toArray, List.getElem_cons_succ, List.getElem_cons_zero, Act.put, List.setIfInBounds_toArray, List.set_cons_zero, List.set_cons_succ])
                      have hB4 : Below wc.heap.size wc (w3.alloc (.cells #[.string ⟨tv.toArray⟩] 9)) := HB7.out.2.alloc HB7.out.2.size _
                      have ho4 : OS (w3.alloc (.cells #[.string ⟨tv.toArray⟩] 9)) wc.heap.size (.slice A7 (l0).length c7) (l0) := HB7.out.1.alloc _
                      have hs4 : SL (w3.alloc (.cells #[.string ⟨tv.toArray⟩] 9)) (some ⟨w3.heap.size, 0, none⟩) [tv] := SL.one w3 tv 9
                      obtain ⟨u6, w6, hrun6, ho6, hg6, _⟩ := run_append_S 31 31 Try.underlying31 (w3.alloc (.cells #[.string ⟨tv.toArray⟩] 9)) wc.heap.size (.slice A7 (l0).length c7) (l0) ho4 (some ⟨w3.heap.size, 0, none⟩) [tv] 1 hs4 (by have := hll; have := hkm; first | omega | (simp; done) | (simp; omega)) hB4.size
                      obtain ⟨A6, cc6, hk6, _⟩ := ho6.form
                      obtain rfl : u6 = .slice A6 ((l0).length + 1) cc6 := by rw [hk6]; simp
                      clear hk6
                      have hB6 : Below wc.heap.size wc w6 := hB4.trans ((Below.refl _ _).grown hg6 hB4.size (fun k hk => (ho4.lt k hk).1))
                      have s6 := (hB6.cell (p := ⟨g1, i * 2 + 1, none⟩) (World.block_lt_of_cell? _ _ s1)).trans s1
                      have f6 : w6.frozen? ⟨g1, i * 2 + 1, none⟩ = false := (hB6.frozen (World.block_lt_of_cell? _ _ s1)).trans fG
                      have cB6 := (hB6.cell (p := ⟨w.heap.size, 0, none⟩) (World.block_lt_of_cell? _ _ cB)).trans cB
                      have d26 := (hB6.cell (p := ⟨P, 2, none⟩) (World.block_lt_of_cell? _ _ d2)).trans d2
                      have cB8 : (w6.setCell ⟨g1, i * 2 + 1, none⟩ (.slice A6 ((l0).length + 1) cc6)).cell? ⟨w.heap.size, 0, none⟩ = some (.slice (some ⟨g1, 0, none⟩) E1.length c1) := (World.cell?_setCell_far _ _ _ _ (fun e => (HH1.out.1.key.out g1 rfl).2 e)).trans cB6
                      have d28 : (w6.setCell ⟨g1, i * 2 + 1, none⟩ (.slice A6 ((l0).length + 1) cc6)).cell? ⟨P, 2, none⟩ = some (.string ⟨tv.toArray⟩) := (World.cell?_setCell_far _ _ _ _ (fun e => HH1.out.2.2.2.2.1 g1 rfl e)).trans d26
                      have HN3 := Lib.hid (And.intro (HH1.out.1.laid HH1.out.2.2.2.2.2.2.2.1.size hB6 HH1.out.2.1 (u := .slice A6 ((l0).length + 1) cc6) (l := l0 ++ [tv]) (by have := ho6.sval; simpa using this)) hrun6)
                      clear ho6 hg6 hB6 hB4 ho4 hs4 hrun6
                      refine wpAnyH_ready (rs := [11]) (by kernel_rfl) (by simp) ?_
                      refine AllReadyH.cons rfl (fun K hK => ?_) AllReadyH.nil
                      rw [if_pos (by rfl)]
                      refine Lib.wp_append_run _ (.tmp 51) (.tmp 54) 31 31 rfl _ _ rfl rfl _ _ HN3.out.2 ?_
                      refine hK.out _ _ ⟨cB6, d26⟩ (fun _ => ?_)
                      clear hK K
                      (try simp only [List.getElem_toArray, List.getElem_cons_succ, List.getElem_cons_zero, Act.put, List.setIfInBounds_toArray, List.set_cons_zero, List.set_cons_succ])
                      refine wpAnyH_take (i := 12) (v := ?v12x17) rfl (by kernel_rfl) (by kernel_rfl) (by kernel_rfl) (fun _ _ _ h => h) (Or.inl ⟨by rfl, ?h12x17⟩) (by assumption) ?r12x17
                      case h12x17 => (intro w hSw; (try dsimp only at hSw); obtain ⟨hSw1, hSw2⟩ := hSw; go_simp; (try with_reducible rfl))
                      (try simp only [List.getElem_toArray, List.getElem_cons_succ, List.getElem_cons_zero, Act.put, List.setIfInBounds_toArray, List.set_cons_zero, List.set_cons_succ])
                      refine wpAnyH_take (i := 13) (v := ?v13x18) rfl (by kernel_rfl) (by kernel_rfl) (by kernel_rfl) (fun _ _ _ h => h) (Or.inl ⟨by rfl, ?h13x18⟩) (by assumption) ?r13x18
                      case h13x18 => (intro w hSw; (try dsimp only at hSw); obtain ⟨hSw1, hSw2⟩ := hSw; go_simp; (try with_reducible rfl))
                      (try simp only [List.getElem_toArray, List.getElem_cons_succ, List.getElem_cons_zero, Act.put, List.setIfInBounds_toArray, List.set_cons_zero, List.set_cons_succ])
                      refine wpAnyH_ready (rs := [14]) (by kernel_rfl) (by simp) ?_
                      refine AllReadyH.cons rfl (fun K hK => ?_) AllReadyH.nil
                      go_simp
                      refine hK.out _ _ ⟨cB8, d28⟩ (fun _ => ?_)
                      clear hK K
                      (try simp only [List.getElem_toArray, List.getElem_cons_succ, List.getElem_cons_zero, Act.put, List.setIfInBounds_toArray, List.set_cons_zero, List.set_cons_succ])
                      refine wpAnyH_done (by kernel_rfl) ?_ _
                      go_wp2
                      go_roundg (gk - 1)
                      case measure => omega
                      case rel =>
                        obtain ⟨N3, hn3, hbl3⟩ := HN3.out.1
                        exact ⟨k + 1, by omega, by go_num, Lib.hid (SpAt.next (s := (updF (runM (ts.take k)).1 (canonOf tk) (l0 ++ [tv]), (runM (ts.take k)).2)) hn3 (HH1.out.2.2.2.2.2.1 _ (by simp)) (by rw [List.length_set]; exact HH1.out.2.2.2.1) (by rw [HR2.out]; exact stepM_add _ _ _ _ hfe.out)), HH1.out.2.2.2.2.2.2.2.1.trans hbl3⟩
                    · go_simp
                      have cBA := Lib.cell?_alloc_some (W := (wc.drew)) (.cells #[.string ⟨tv.toArray⟩] 9) cB
                      have d2A := Lib.cell?_alloc_some (W := (wc.drew)) (.cells #[.string ⟨tv.toArray⟩] 9) d2
                      have s1A := Lib.cell?_alloc_some (W := wc) (.cells #[.string ⟨tv.toArray⟩] 9) s1
                      refine hK.out _ _ ⟨cBA, d2A⟩ (fun _ => ?_)
                      clear hK K
                      (try simp only [List.getElem_toArray, List.getElem_cons_succ, List.getElem_cons_zero, Act.put, List.setIfInBounds_toArray, List.set_cons_zero, List.set_cons_succ])
                      refine wpAnyH_ready (rs := [7]) (by kernel_rfl) (by simp) ?_
                      refine AllReadyH.cons rfl (fun K hK => ?_) AllReadyH.nil
                      go_simp
                      go_wp2_with (go_at_call 36; refine (HCL.out _ ((Below.refl wc.heap.size wc).drew.alloc (Nat.le_refl _) (.cells #[.string ⟨tv.toArray⟩] 9))).mono ?_; rintro e w3 ⟨⟨A7, c7, rfl, ho7⟩, hb7⟩)
                      have HB7 := Lib.hid (And.intro ho7 ((((Below.refl wc.heap.size wc).drew.alloc (Nat.le_refl _) (.cells #[.string ⟨tv.toArray⟩] 9))).trans (hb7.mono (((Below.refl wc.heap.size wc).drew.alloc (Nat.le_refl _) (.cells #[.string ⟨tv.toArray⟩] 9))).size)))
                      have cB3 := (HB7.out.2.cell (p := ⟨w.heap.size, 0, none⟩) (World.block_lt_of_cell? _ _ cB)).trans cB
                      have d23 := (HB7.out.2.cell (p := ⟨P, 2, none⟩) (World.block_lt_of_cell? _ _ d2)).trans d2
                      refine hK.out _ _ ⟨cB3, d23⟩ (fun _ => ?_)
                      clear hK K
                      (try simp only [List.getElem_toArray, List.getElem_cons_succ, List.getElem_cons_zero, Act.put, List.setIfInBounds_toArray, List.set_cons_zero, List.set_cons_succ])
                      have hB4 : Below wc.heap.size wc w3 := HB7.out.2
                      have ho4 : OS w3 wc.heap.size (.slice A7 (l0).length c7) (l0) := HB7.out.1.mono (Nat.le_of_lt (by simp))
                      have hs4 : SL w3 (some ⟨wc.heap.size, 0, none⟩) [tv] := (SL.one (wc.drew) tv 9).below hb7
                      obtain ⟨u6, w6, hrun6, ho6, hg6, _⟩ := run_append_S 31 31 Try.underlying31 w3 wc.heap.size (.slice A7 (l0).length c7) (l0) ho4 (some ⟨wc.heap.size, 0, none⟩) [tv] 1 hs4 (by have := hll; have := hkm; first | omega | (simp; done) | (simp; omega)) hB4.size
                      obtain ⟨A6, cc6, hk6, _⟩ := ho6.form
                      obtain rfl : u6 = .slice A6 ((l0).length + 1) cc6 := by rw [hk6]; simp
                      clear hk6
                      have hB6 : Below wc.heap.size wc w6 := hB4.trans ((Below.refl _ _).grown hg6 hB4.size (fun k hk => (ho4.lt k hk).1))
                      have s6 := (hB6.cell (p := ⟨g1, i * 2 + 1, none⟩) (World.block_lt_of_cell? _ _ s1)).trans s1
                      have f6 : w6.frozen? ⟨g1, i * 2 + 1, none⟩ = false := (hB6.frozen (World.block_lt_of_cell? _ _ s1)).trans fG
                      have cB6 := (hB6.cell (p := ⟨w.heap.size, 0, none⟩) (World.block_lt_of_cell? _ _ cB)).trans cB
                      have d26 := (hB6.cell (p := ⟨P, 2, none⟩) (World.block_lt_of_cell? _ _ d2)).trans d2
                      have cB8 : (w6.setCell ⟨g1, i * 2 + 1, none⟩ (.slice A6 ((l0).length + 1) cc6)).cell? ⟨w.heap.size, 0, none⟩ = some (.slice (some ⟨g1, 0, none⟩) E1.length c1) := (World.cell?_setCell_far _ _ _ _ (fun e => (HH1.out.1.key.out g1 rfl).2 e)).trans cB6
                      have d28 : (w6.setCell ⟨g1, i * 2 + 1, none⟩ (.slice A6 ((l0).length + 1) cc6)).cell? ⟨P, 2, none⟩ = some (.string ⟨tv.toArray⟩) := (World.cell?_setCell_far _ _ _ _ (fun e => HH1.out.2.2.2.2.1 g1 rfl e)).trans d26
                      have HN3 := Lib.hid (And.intro (HH1.out.1.laid HH1.out.2.2.2.2.2.2.2.1.size hB6 HH1.out.2.1 (u := .slice A6 ((l0).length + 1) cc6) (l := l0 ++ [tv]) (by have := ho6.sval; simpa using this)) hrun6)
                      clear ho6 hg6 hB6 hB4 ho4 hs4 hrun6
                      refine wpAnyH_ready (rs := [11]) (by kernel_rfl) (by simp) ?_
                      refine AllReadyH.cons rfl (fun K hK => ?_) AllReadyH.nil
                      rw [if_pos (by rfl)]
                      refine Lib.wp_append_run _ (.tmp 51) (.tmp 54) 31 31 rfl _ _ rfl rfl _ _ HN3.out.2 ?_
                      refine hK.out _ _ ⟨cB6, d26⟩ (fun _ => ?_)
                      clear hK K
                      (try simp only [List.getElem_toArray, List.getElem_cons_succ, List.getElem_cons_zero, Act.put, List.setIfInBounds_toArray, List.set_cons_zero, List.set_cons_succ])
                      refine wpAnyH_take (i := 12) (v := ?v12x19) rfl (by kernel_rfl) (by kernel_rfl) (by kernel_rfl) (fun _ _ _ h => h) (Or.inl ⟨by rfl, ?h12x19⟩) (by assumption) ?r12x19
                      case h12x19 => (intro w hSw; (try dsimp only at hSw); obtain ⟨hSw1, hSw2⟩ := hSw; go_simp; (try with_reducible rfl))
                      (try simp only [List.getElem_toArray, List.getElem_cons_succ, List.getElem_cons_zero, Act.put, List.setIfInBounds_toArray, List.set_cons_zero, List.set_cons_succ])
                      refine wpAnyH_take (i := 13) (v := ?v13x20) rfl (by kernel_rfl) (by kernel_rfl) (by kernel_rfl) (fun _ _ _ h => h) (Or.inl ⟨by rfl, ?h13x20⟩) (by assumption) ?r13x20
                      case h13x20 => (intro w hSw; (try dsimp only at hSw); obtain ⟨hSw1, hSw2⟩ := hSw; go_simp; (try with_reducible rfl))
                      (try simp only [List.getElem_toArray, List.getElem_cons_succ, List.getElem_cons_zero, Act.put, List.setIfInBounds_toArray, List.set_cons_zero, List.set_cons_succ])
                      refine wpAnyH_ready (rs := [14]) (by kernel_rfl) (by simp) ?_
                      refine AllReadyH.cons rfl (fun K hK => ?_) AllReadyH.nil
                      go_simp
                      refine hK.out _ _ ⟨cB8, d28⟩ (fun _ => ?_)
                      clear hK K
                      (try simp only [List.getElem_toArray, List.getElem_cons_succ, List.getElem_cons_zero, Act.put, List.setIfInBounds_toArray, List.set_cons_zero, List.set_cons_succ])
                      refine wpAnyH_done (by kernel_rfl) ?_ _
                      go_wp2
                      go_roundg (gk - 1)
                      case measure => omega
                      case rel =>
                        obtain ⟨N3, hn3, hbl3⟩ := HN3.out.1
                        exact ⟨k + 1, by omega, by go_num, Lib.hid (SpAt.next (s := (updF (runM (ts.take k)).1 (canonOf tk) (l0 ++ [tv]), (runM (ts.take k)).2)) hn3 (HH1.out.2.2.2.2.2.1 _ (by simp)) (by rw [List.length_set]; exact HH1.out.2.2.2.1) (by rw [HR2.out]; exact stepM_add _ _ _ _ hfe.out)), HH1.out.2.2.2.2.2.2.2.1.trans hbl3⟩
                  · go_simp
                    have cBA := Lib.cell?_alloc_some (W := (wc.drew)) (.cells #[.string ⟨tv.toArray⟩] 9) cB
                    have d2A := Lib.cell?_alloc_some (W := (wc.drew)) (.cells #[.string ⟨tv.toArray⟩] 9) d2
                    have s1A := Lib.cell?_alloc_some (W := wc) (.cells #[.string ⟨tv.toArray⟩] 9) s1
                    refine hK.out _ _ ⟨cBA, d2A⟩ (fun _ => ?_)
                    clear hK K
                    (try simp only [List.getElem_toArray, List.getElem_cons_succ, List.getElem_cons_zero, Act.put, List.setIfInBounds_toArray, List.set_cons_zero, List.set_cons_succ])
                    refine wpAnyH_ready (rs := [6]) (by kernel_rfl) (by simp) ?_
                    refine AllReadyH.cons rfl (fun K hK => ?_) AllReadyH.nil
                    go_simp
                    refine hK.out _ _ ⟨cBA, d2A⟩ (fun _ => ?_)
                    clear hK K
                    (try simp only [List.getElem_toArray, List.getElem_cons_succ, List.getElem_cons_zero, Act.put, List.setIfInBounds_toArray, List.set_cons_zero, List.set_cons_succ])
                    refine wpAnyH_ready (rs := [7]) (by kernel_rfl) (by simp) ?_
                    refine AllReadyH.cons rfl (fun K hK => ?_) AllReadyH.nil
                    go_simp
                    go_wp2_with (go_at_call 36; refine (HCL.out _ ((Below.refl wc.heap.size wc).drew.alloc (Nat.le_refl _) (.cells #[.string ⟨tv.toArray⟩] 9))).mono ?_; rintro e w3 ⟨⟨A7, c7, rfl, ho7⟩, hb7⟩)
                    have HB7 := Lib.hid (And.intro ho7 ((((Below.refl wc.heap.size wc).drew.alloc (Nat.le_refl _) (.cells #[.string ⟨tv.toArray⟩] 9))).trans (hb7.mono (((Below.refl wc.heap.size wc).drew.alloc (Nat.le_refl _) (.cells #[.string ⟨tv.toArray⟩] 9))).size)))
                    have cB3 := (HB7.out.2.cell (p := ⟨w.heap.size, 0, none⟩) (World.block_lt_of_cell? _ _ cB)).trans cB
                    have d23 := (HB7.out.2.cell (p := ⟨P, 2, none⟩) (World.block_lt_of_cell? _ _ d2)).trans d2
                    refine hK.out _ _ ⟨cB3, d23⟩ (fun _ => ?_)
                    clear hK K
                    (try simp only [List.getElem_toArray, List.getElem_cons_succ, List.getElem_cons_zero, Act.put, List.setIfInBounds_toArray, List.set_cons_zero, List.set_cons_succ])
                    have hB4 : Below wc.heap.size wc w3 := HB7.out.2
                    have ho4 : OS w3 wc.heap.size (.slice A7 (l0).length c7) (l0) := HB7.out.1.mono (Nat.le_of_lt (by simp))
                    have hs4 : SL w3 (some ⟨wc.heap.size, 0, none⟩) [tv] := (SL.one (wc.drew) tv 9).below hb7
                    obtain ⟨u6, w6, hrun6, ho6, hg6, _⟩ := run_append_S 31 31 Try.underlying31 w3 wc.heap.size (.slice A7 (l0).length c7) (l0) ho4 (some ⟨wc.heap.size, 0, none⟩) [tv] 1 hs4 (by have := hll; have := hkm; first | omega | (simp; done) | (simp; omega)) hB4.size
                    obtain ⟨A6, cc6, hk6, _⟩ := ho6.form
                    obtain rfl : u6 = .slice A6 ((l0).length + 1) cc6 := by rw [hk6]; simp
                    clear hk6
                    have hB6 : Below wc.heap.size wc w6 := hB4.trans ((Below.refl _ _).grown hg6 hB4.size (fun k hk => (ho4.lt k hk).1))
                    have s6 := (hB6.cell (p := ⟨g1, i * 2 + 1, none⟩) (World.block_lt_of_cell? _ _ s1)).trans s1
                    have f6 : w6.frozen? ⟨g1, i * 2 + 1, none⟩ = false := (hB6.frozen (World.block_lt_of_cell? _ _ s1)).trans fG
                    have cB6 := (hB6.cell (p := ⟨w.heap.size, 0, none⟩) (World.block_lt_of_cell? _ _ cB)).trans cB
                    have d26 := (hB6.cell (p := ⟨P, 2, none⟩) (World.block_lt_of_cell? _ _ d2)).trans d2
                    have cB8 : (w6.setCell ⟨g1, i * 2 + 1, none⟩ (.slice A6 ((l0).length + 1) cc6)).cell? ⟨w.heap.size, 0, none⟩ = some (.slice (some ⟨g1, 0, none⟩) E1.length c1) := (World.cell?_setCell_far _ _ _ _ (fun e => (HH1.out.1.key.out g1 rfl).2 e)).trans cB6
                    have d28 : (w6.setCell ⟨g1, i * 2 + 1, none⟩ (.slice A6 ((l0).length + 1) cc6)).cell? ⟨P, 2, none⟩ = some (.string ⟨tv.toArray⟩) := (World.cell?_setCell_far _ _ _ _ (fun e => HH1.out.2.2.2.2.1 g1 rfl e)).trans d26
                    have HN3 := Lib.hid (And.intro (HH1.out.1.laid HH1.out.2.2.2.2.2.2.2.1.size hB6 HH1.out.2.1 (u := .slice A6 ((l0).length + 1) cc6) (l := l0 ++ [tv]) (by have := ho6.sval; simpa using this)) hrun6)
                    clear ho6 hg6 hB6 hB4 ho4 hs4 hrun6
                    refine wpAnyH_ready (rs := [11]) (by kernel_rfl) (by simp) ?_
                    refine AllReadyH.cons rfl (fun K hK => ?_) AllReadyH.nil
                    rw [if_pos (by rfl)]
                    refine Lib.wp_append_run _ (.tmp 51) (.tmp 54) 31 31 rfl _ _ rfl rfl _ _ HN3.out.2 ?_
                    refine hK.out _ _ ⟨cB6, d26⟩ (fun _ => ?_)
                    clear hK K
                    (try simp only [List.getElem_toArray, List.getElem_cons_succ, List.getElem_cons_zero, Act.put, List.setIfInBounds_toArray, List.set_cons_zero, List.set_cons_succ])
                    refine wpAnyH_take (i := 12) (v := ?v12x21) rfl (by kernel_rfl) (by kernel_rfl) (by kernel_rfl) (fun _ _ _ h => h) (Or.inl ⟨by rfl, ?h12x21⟩) (by assumption) ?r12x21
                    case h12x21 => (intro w hSw; (try dsimp only at hSw); obtain ⟨hSw1, hSw2⟩ := hSw; go_simp; (try with_reducible rfl))
                    (try simp only [List.getElem_toArray, List.getElem_cons_succ, List.getElem_cons_zero, Act.put, List.setIfInBounds_toArray, List.set_cons_zero, List.set_cons_succ])
                    refine wpAnyH_take (i := 13) (v := ?v13x22) rfl (by kernel_rfl) (by kernel_rfl) (by kernel_rfl) (fun _ _ _ h => h) (Or.inl ⟨by rfl, ?h13x22⟩) (by assumption) ?r13x22
                    case h13x22 => (intro w hSw; (try dsimp only at hSw); obtain ⟨hSw1, hSw2⟩ := hSw; go_simp; (try with_reducible rfl))
                    (try simp only [List.getElem_toArray, List.getElem_cons_succ, List.getElem_cons_zero, Act.put, List.setIfInBounds_toArray, List.set_cons_zero, List.set_cons_succ])
                    refine wpAnyH_ready (rs := [14]) (by kernel_rfl) (by simp) ?_
                    refine AllReadyH.cons rfl (fun K hK => ?_) AllReadyH.nil
                    go_simp
                    refine hK.out _ _ ⟨cB8, d28⟩ (fun _ => ?_)
                    clear hK K
                    (try simp only [List.getElem_toArray, List.getElem_cons_succ, List.getElem_cons_zero, Act.put, List.setIfInBounds_toArray, List.set_cons_zero, List.set_cons_succ])
                    refine wpAnyH_done (by kernel_rfl) ?_ _
                    go_wp2
                    go_roundg (gk - 1)
                    case measure => omega
                    case rel =>
                      obtain ⟨N3, hn3, hbl3⟩ := HN3.out.1
                      exact ⟨k + 1, by omega, by go_num, Lib.hid (SpAt.next (s := (updF (runM (ts.take k)).1 (canonOf tk) (l0 ++ [tv]), (runM (ts.take k)).2)) hn3 (HH1.out.2.2.2.2.2.1 _ (by simp)) (by rw [List.length_set]; exact HH1.out.2.2.2.1) (by rw [HR2.out]; exact stepM_add _ _ _ _ hfe.out)), HH1.out.2.2.2.2.2.2.2.1.trans hbl3⟩
              · skip
                refine Lib.hid ?_
                go_upto_if 27 with (fail)
                go_cut [8] (fun u8 wx => ∃ (i : Nat) (l0 : List (List UInt8)), u8 = .int .i64 i ∧ i ≤ 2500000000 ∧ l0.length ≤ k ∧ Hid ((runM (ts.take k)).1 (canonOf tk) = l0) ∧ Hid (SpMid w.heap.size P i (.slice A0 vs.length c00) vs (runM (ts.take k)).1 (runM (ts.take k)).2 ⟨setB, tk, tv⟩ l0 (k + 1) w wx))
                case first =>
                  rcases keyIdx_cases E (canonOf tk) with ⟨i, hi, hidx, u, hu⟩ | ⟨hidx, hno⟩
                  · rw [hidx]
                    obtain ⟨l0, hl0⟩ := findIdx_E HS.out.1.key.keys hu
                    have hfe := HQ.out.1.at_ i _ hl0
                    have HFE := Lib.hid (show (runM (ts.take k)).1 (canonOf tk) = l0 from hfe)
                    have hll : l0.length ≤ k := by have := HQ.out.2.2.2.2.1 (canonOf tk); rw [hfe] at this; exact this
                    have hil : i ≤ 2500000000 := by have := HQ.out.2.1; have := HQ.out.2.2.2.2.2; omega
                    have HM := Lib.hid (show SpMid w.heap.size P i (.slice A0 vs.length c00) vs (runM (ts.take k)).1 (runM (ts.take k)).2 ⟨setB, tk, tv⟩ l0 (k + 1) w w2 from ⟨⟨N, _, E, K, u, HS.out.1, hu, hl0, Nat.le_succ_of_le HQ.out.2.1, HPP.out.2, fun l hl => HQ.out.1.set hl0 hl⟩, HPP.out.1, HS.out.2, e0, e1, e2⟩)
                    clear hu hl0 hfe hidx
                    go_wp2
                    go_meet
                    case rel => exact ⟨i, l0, rfl, hil, hll, HFE, HM⟩
                  · rw [hidx]
                    go_upto_region 13 with (fail)
                    have HC := Lib.hid (fun W => specCanon_any tk hkl W)
                    refine wp_region_held_drew (S := fun wx => wx.cell? ⟨P, 1, none⟩ = some (.string ⟨tk.toArray⟩)) (by kernel_rfl) e1 (fun hHeld => ?_)
                    refine wpAnyH_take (i := 1) (v := ?v1x5) rfl (by kernel_rfl) (by kernel_rfl) (by kernel_rfl) (fun _ _ _ h => h) (Or.inl ⟨by rfl, ?h1x5⟩) (by assumption) ?r1x5
                    case h1x5 => (intro w hSw; (try dsimp only at hSw); go_simp; (try with_reducible rfl))
                    (try simp only [List.getElem_toArray, List.getElem_cons_succ, List.getElem_cons_zero, Act.put, List.setIfInBounds_toArray, List.set_cons_zero, List.set_cons_succ])
                    refine wpAnyH_take (i := 2) (v := ?v2x6) rfl (by kernel_rfl) (by kernel_rfl) (by kernel_rfl) (fun _ _ _ h => h) (Or.inl ⟨by rfl, ?h2x6⟩) (by assumption) ?r2x6
                    case h2x6 => (intro w hSw; (try dsimp only at hSw); go_simp; (try with_reducible rfl))
                    (try simp only [List.getElem_toArray, List.getElem_cons_succ, List.getElem_cons_zero, Act.put, List.setIfInBounds_toArray, List.set_cons_zero, List.set_cons_succ])
                    refine wpAnyH_ready (rs := [0, 3]) (by kernel_rfl) (by simp) ?_
                    refine AllReadyH.cons rfl (fun K hK => ?_) (AllReadyH.cons rfl (fun K hK => ?_) AllReadyH.nil)
                    · go_simp
                      refine hK.out _ _ (by assumption) (fun _ => ?_)
                      clear hK K
                      (try simp only [List.getElem_toArray, List.getElem_cons_succ, List.getElem_cons_zero, Act.put, List.setIfInBounds_toArray, List.set_cons_zero, List.set_cons_succ])
                      refine wpAnyH_ready (rs := [3]) (by kernel_rfl) (by simp) ?_
                      refine AllReadyH.cons rfl (fun K hK => ?_) AllReadyH.nil
                      go_simp
                      go_wp2_with (go_at_call 16; refine (HC.out _).mono ?_; rintro e w3 ⟨rfl, hb3⟩)
                      have e13 : w3.cell? ⟨P, 1, none⟩ = some (.string ⟨tk.toArray⟩) := (hb3.cell (p := ⟨P, 1, none⟩) (World.block_lt_of_cell? _ _ e1)).trans e1
                      have cB3 : w3.cell? ⟨w.heap.size, 0, none⟩ = some (.slice AE E.length cE) := (hb3.cell (p := ⟨w.heap.size, 0, none⟩) (World.block_lt_of_cell? _ _ cB)).trans cB
                      have cB4 := Lib.cell?_alloc_some (.cells #[.string ⟨(canonOf tk).toArray⟩, .slice none 0 0] 45) cB3
                      have e14 := Lib.cell?_alloc_some (.cells #[.string ⟨(canonOf tk).toArray⟩, .slice none 0 0] 45) e13
                      refine hK.out _ _ e13 (fun _ => ?_)
                      clear hK K
                      (try simp only [List.getElem_toArray, List.getElem_cons_succ, List.getElem_cons_zero, Act.put, List.setIfInBounds_toArray, List.set_cons_zero, List.set_cons_succ])
                      refine wpAnyH_take (i := 4) (v := ?v4x7) rfl (by kernel_rfl) (by kernel_rfl) (by kernel_rfl) (fun _ _ _ h => h) (Or.inl ⟨by rfl, ?h4x7⟩) (by assumption) ?r4x7
                      case h4x7 => (intro w hSw; (try dsimp only at hSw); go_simp; (try with_reducible rfl))
                      (try simp only [List.getElem_toArray, List.getElem_cons_succ, List.getElem_cons_zero, Act.put, List.setIfInBounds_toArray, List.set_cons_zero, List.set_cons_succ])
                      refine wpAnyH_ready (rs := [5]) (by kernel_rfl) (by simp) ?_
                      refine AllReadyH.cons rfl (fun K hK => ?_) AllReadyH.nil
                      go_simp
                      refine hK.out _ _ e14 (fun _ => ?_)
                      clear hK K
                      (try simp only [List.getElem_toArray, List.getElem_cons_succ, List.getElem_cons_zero, Act.put, List.setIfInBounds_toArray, List.set_cons_zero, List.set_cons_succ])
                      have hB0 : Below w2.heap.size w2 (w3.alloc (.cells #[.string ⟨(canonOf tk).toArray⟩, .slice none 0 0] 45)) := ((Below.refl w2.heap.size w2).drew.trans hb3).alloc hb3.size _
                      obtain ⟨kv6, w6, hrun6, ho6, hg6, hat6⟩ := run_append_E 43 (w3.alloc (.cells #[.string ⟨(canonOf tk).toArray⟩, .slice none 0 0] 45)) w.heap.size (.slice AE E.length cE) E (HS.out.1.key.own.of_blocks (fun x _ hl => hB0.block x hl)) w3.heap.size 1 (canonOf tk) (.slice none 0 0) rfl (Blk.cell (t := 45) (heap_alloc_new w3 _) 0) (Blk.cell (t := 45) (heap_alloc_new w3 _) 1) (by have := HQ.out.2.1; have := HQ.out.2.2.2.2.2; omega) (Nat.le_trans hsz2 hB0.size)
                      obtain ⟨A6, cc6, hk6, hk6l, hk6c, _, _⟩ := ho6.form
                      obtain rfl : kv6 = .slice A6 (E.length + 1) cc6 := by rw [hk6]; simp
                      clear hk6 hk6l hk6c
                      have hnew := HS.out.1.added hsz2 hB0 ho6 hg6 hat6
                      have e16 := (World.cell?_of_block (a := ⟨P, 1, none⟩) (hg6.block P (World.block_lt_of_cell? _ _ e14) (fun e => HPP.out.2 P e.symm rfl))).trans e14
                      have hb6 := hg6.block w.heap.size (World.block_lt_of_cell? _ _ cB4) (fun e => (HS.out.1.key.out _ e.symm).2 rfl)
                      have c6 := (World.cell?_of_block (a := ⟨w.heap.size, 0, none⟩) hb6).trans cB4
                      have f6 : w6.frozen? ⟨w.heap.size, 0, none⟩ = false := (World.frozen?_of_block (a := ⟨w.heap.size, 0, none⟩) (hb6.trans (hB0.block _ HS.out.1.key.ltB))).trans fB
                      have e17 : (w6.setCell ⟨w.heap.size, 0, none⟩ (.slice A6 (E.length + 1) cc6)).cell? ⟨P, 1, none⟩ = some (.string ⟨tk.toArray⟩) := (World.cell?_setCell_far _ _ _ _ HPP.out.1).trans e16
                      have hbP : (w6.setCell ⟨w.heap.size, 0, none⟩ (.slice A6 (E.length + 1) cc6)).heap[P]? = w2.heap[P]? := (Below.heap_setCell _ _ _ _ (fun e => HPP.out.1 e.symm)).trans ((hg6.block P (World.block_lt_of_cell? _ _ e14) (fun e => HPP.out.2 P e.symm rfl)).trans (hB0.block P (World.block_lt_of_cell? _ _ e1)))
                      have hown6 : ∀ x, (Value.slice A6 (E.length + 1) cc6).ownBlock = some x → x ≠ P := fun x hx => by
                        rcases hat6 with h | h
                        · exact HPP.out.2 x (h ▸ hx)
                        · rw [h] at hx; injection hx with hx; exact fun e => absurd (World.block_lt_of_cell? _ _ e14) (by rw [hx, e]; exact Nat.lt_irrefl _)
                      have HNW := Lib.hid (And.intro hnew (And.intro hbP (And.intro hB0 (And.intro hrun6 hown6))))
                      have HKN := Lib.hid hno
                      clear hnew hbP hown6 hg6 hB0 hrun6 ho6 hat6 hb6 hb3 hno
                      refine wpAnyH_ready (rs := [6]) (by kernel_rfl) (by simp) ?_
                      refine AllReadyH.cons rfl (fun K hK => ?_) AllReadyH.nil
                      rw [if_pos (by rfl)]
                      refine Lib.wp_append_run _ (.tmp 30) (.tmp 35) 43 43 rfl _ _ rfl rfl _ _ HNW.out.2.2.2.1 ?_
                      refine hK.out _ _ e16 (fun _ => ?_)
                      clear hK K
                      (try simp only [List.getElem_toArray, List.getElem_cons_succ, List.getElem_cons_zero, Act.put, List.setIfInBounds_toArray, List.set_cons_zero, List.set_cons_succ])
                      refine wpAnyH_ready (rs := [7]) (by kernel_rfl) (by simp) ?_
                      refine AllReadyH.cons rfl (fun K hK => ?_) AllReadyH.nil
                      go_simp
                      refine hK.out _ _ e17 (fun _ => ?_)
                      clear hK K
                      (try simp only [List.getElem_toArray, List.getElem_cons_succ, List.getElem_cons_zero, Act.put, List.setIfInBounds_toArray, List.set_cons_zero, List.set_cons_succ])
                      refine wpAnyH_done (by kernel_rfl) ?_ _
                      go_wp2
                      go_meet
                      case rel =>
                        have hkl2 := HQ.out.2.2.2.2.2
                        have hkk := HQ.out.2.1
                        refine ⟨E.length, [], rfl, by omega, Nat.zero_le _, Lib.hid (HQ.out.1.no (canonOf tk) (by rw [← HS.out.1.key.keys]; exact HKN.out)), Lib.hid ⟨⟨N, _, E ++ [(canonOf tk, .slice none 0 0)], K ++ [(canonOf tk, [])], .slice none 0 0, HNW.out.1.1, by simp, by rw [hkl2]; simp, by simp; omega, HNW.out.2.2.2.2, fun l hl => ?_⟩, HPP.out.1, HS.out.2.trans HNW.out.1.2, (World.cell?_of_block (w := w2) (a := ⟨P, 0, none⟩) HNW.out.2.1).trans e0, (World.cell?_of_block (w := w2) (a := ⟨P, 1, none⟩) HNW.out.2.1).trans e1, (World.cell?_of_block (w := w2) (a := ⟨P, 2, none⟩) HNW.out.2.1).trans e2⟩⟩
                        rw [hkl2, show (K ++ [(canonOf tk, ([] : List (List UInt8)))]).set K.length (canonOf tk, l) = K ++ [(canonOf tk, l)] by simp]
                        exact HQ.out.1.snoc (by rw [← HS.out.1.key.keys]; exact HKN.out) hl
                    · go_simp
                      go_wp2_with (go_at_call 16; refine (HC.out _).mono ?_; rintro e w3 ⟨rfl, hb3⟩)
                      have e13 : w3.cell? ⟨P, 1, none⟩ = some (.string ⟨tk.toArray⟩) := (hb3.cell (p := ⟨P, 1, none⟩) (World.block_lt_of_cell? _ _ e1)).trans e1
                      have cB3 : w3.cell? ⟨w.heap.size, 0, none⟩ = some (.slice AE E.length cE) := (hb3.cell (p := ⟨w.heap.size, 0, none⟩) (World.block_lt_of_cell? _ _ cB)).trans cB
                      have cB4 := Lib.cell?_alloc_some (.cells #[.string ⟨(canonOf tk).toArray⟩, .slice none 0 0] 45) cB3
                      have e14 := Lib.cell?_alloc_some (.cells #[.string ⟨(canonOf tk).toArray⟩, .slice none 0 0] 45) e13
                      refine hK.out _ _ e13 (fun _ => ?_)
                      clear hK K
                      (try simp only [List.getElem_toArray, List.getElem_cons_succ, List.getElem_cons_zero, Act.put, List.setIfInBounds_toArray, List.set_cons_zero, List.set_cons_succ])
                      refine wpAnyH_take (i := 4) (v := ?v4x8) rfl (by kernel_rfl) (by kernel_rfl) (by kernel_rfl) (fun _ _ _ h => h) (Or.inl ⟨by rfl, ?h4x8⟩) (by assumption) ?r4x8
                      case h4x8 => (intro w hSw; (try dsimp only at hSw); go_simp; (try with_reducible rfl))
                      (try simp only [List.getElem_toArray, List.getElem_cons_succ, List.getElem_cons_zero, Act.put, List.setIfInBounds_toArray, List.set_cons_zero, List.set_cons_succ])
                      refine wpAnyH_ready (rs := [0, 5]) (by kernel_rfl) (by simp) ?_
                      refine AllReadyH.cons rfl (fun K hK => ?_) (AllReadyH.cons rfl (fun K hK => ?_) AllReadyH.nil)
                      · go_simp
                        refine hK.out _ _ (by assumption) (fun _ => ?_)
                        clear hK K
                        (try simp only [List.getElem_toArray, List.getElem_cons_succ, List.getElem_cons_zero, Act.put, List.setIfInBounds_toArray, List.set_cons_zero, List.set_cons_succ])
                        refine wpAnyH_ready (rs := [5]) (by kernel_rfl) (by simp) ?_
                        refine AllReadyH.cons rfl (fun K hK => ?_) AllReadyH.nil
                        go_simp
                        refine hK.out _ _ e14 (fun _ => ?_)
                        clear hK K
                        (try simp only [List.getElem_toArray, List.getElem_cons_succ, List.getElem_cons_zero, Act.put, List.setIfInBounds_toArray, List.set_cons_zero, List.set_cons_succ])
                        have hB0 : Below w2.heap.size w2 (w3.alloc (.cells #[.string ⟨(canonOf tk).toArray⟩, .slice none 0 0] 45)) := ((Below.refl w2.heap.size w2).drew.trans hb3).alloc hb3.size _
                        obtain ⟨kv6, w6, hrun6, ho6, hg6, hat6⟩ := run_append_E 43 (w3.alloc (.cells #[.string ⟨(canonOf tk).toArray⟩, .slice none 0 0] 45)) w.heap.size (.slice AE E.length cE) E (HS.out.1.key.own.of_blocks (fun x _ hl => hB0.block x hl)) w3.heap.size 1 (canonOf tk) (.slice none 0 0) rfl (Blk.cell (t := 45) (heap_alloc_new w3 _) 0) (Blk.cell (t := 45) (heap_alloc_new w3 _) 1) (by have := HQ.out.2.1; have := HQ.out.2.2.2.2.2; omega) (Nat.le_trans hsz2 hB0.size)
                        obtain ⟨A6, cc6, hk6, hk6l, hk6c, _, _⟩ := ho6.form
                        obtain rfl : kv6 = .slice A6 (E.length + 1) cc6 := by rw [hk6]; simp
                        clear hk6 hk6l hk6c
                        have hnew := HS.out.1.added hsz2 hB0 ho6 hg6 hat6
                        have e16 := (World.cell?_of_block (a := ⟨P, 1, none⟩) (hg6.block P (World.block_lt_of_cell? _ _ e14) (fun e => HPP.out.2 P e.symm rfl))).trans e14
                        have hb6 := hg6.block w.heap.size (World.block_lt_of_cell? _ _ cB4) (fun e => (HS.out.1.key.out _ e.symm).2 rfl)
                        have c6 := (World.cell?_of_block (a := ⟨w.heap.size, 0, none⟩) hb6).trans cB4
                        have f6 : w6.frozen? ⟨w.heap.size, 0, none⟩ = false := (World.frozen?_of_block (a := ⟨w.heap.size, 0, none⟩) (hb6.trans (hB0.block _ HS.out.1.key.ltB))).trans fB
                        have e17 : (w6.setCell ⟨w.heap.size, 0, none⟩ (.slice A6 (E.length + 1) cc6)).cell? ⟨P, 1, none⟩ = some (.string ⟨tk.toArray⟩) := (World.cell?_setCell_far _ _ _ _ HPP.out.1).trans e16
                        have hbP : (w6.setCell ⟨w.heap.size, 0, none⟩ (.slice A6 (E.length + 1) cc6)).heap[P]? = w2.heap[P]? := (Below.heap_setCell _ _ _ _ (fun e => HPP.out.1 e.symm)).trans ((hg6.block P (World.block_lt_of_cell? _ _ e14) (fun e => HPP.out.2 P e.symm rfl)).trans (hB0.block P (World.block_lt_of_cell? _ _ e1)))
                        have hown6 : ∀ x, (Value.slice A6 (E.length + 1) cc6).ownBlock = some x → x ≠ P := fun x hx => by
                          rcases hat6 with h | h
                          · exact HPP.out.2 x (h ▸ hx)
                          · rw [h] at hx; injection hx with hx; exact fun e => absurd (World.block_lt_of_cell? _ _ e14) (by rw [hx, e]; exact Nat.lt_irrefl _)
                        have HNW := Lib.hid (And.intro hnew (And.intro hbP (And.intro hB0 (And.intro hrun6 hown6))))
                        have HKN := Lib.hid hno
                        clear hnew hbP hown6 hg6 hB0 hrun6 ho6 hat6 hb6 hb3 hno
                        refine wpAnyH_ready (rs := [6]) (by kernel_rfl) (by simp) ?_
                        refine AllReadyH.cons rfl (fun K hK => ?_) AllReadyH.nil
                        rw [if_pos (by rfl)]
                        refine Lib.wp_append_run _ (.tmp 30) (.tmp 35) 43 43 rfl _ _ rfl rfl _ _ HNW.out.2.2.2.1 ?_
                        refine hK.out _ _ e16 (fun _ => ?_)
                        clear hK K
                        (try simp only [List.getElem_toArray, List.getElem_cons_succ, List.getElem_cons_zero, Act.put, List.setIfInBounds_toArray, List.set_cons_zero, List.set_cons_succ])
                        refine wpAnyH_ready (rs := [7]) (by kernel_rfl) (by simp) ?_
                        refine AllReadyH.cons rfl (fun K hK => ?_) AllReadyH.nil
                        go_simp
                        refine hK.out _ _ e17 (fun _ => ?_)
                        clear hK K
                        (try simp only [List.getElem_toArray, List.getElem_cons_succ, List.getElem_cons_zero, Act.put, List.setIfInBounds_toArray, List.set_cons_zero, List.set_cons_succ])
                        refine wpAnyH_done (by kernel_rfl) ?_ _
                        go_wp2
                        go_meet
                        case rel =>
                          have hkl2 := HQ.out.2.2.2.2.2
                          have hkk := HQ.out.2.1
                          refine ⟨E.length, [], rfl, by omega, Nat.zero_le _, Lib.hid (HQ.out.1.no (canonOf tk) (by rw [← HS.out.1.key.keys]; exact HKN.out)), Lib.hid ⟨⟨N, _, E ++ [(canonOf tk, .slice none 0 0)], K ++ [(canonOf tk, [])], .slice none 0 0, HNW.out.1.1, by simp, by rw [hkl2]; simp, by simp; omega, HNW.out.2.2.2.2, fun l hl => ?_⟩, HPP.out.1, HS.out.2.trans HNW.out.1.2, (World.cell?_of_block (w := w2) (a := ⟨P, 0, none⟩) HNW.out.2.1).trans e0, (World.cell?_of_block (w := w2) (a := ⟨P, 1, none⟩) HNW.out.2.1).trans e1, (World.cell?_of_block (w := w2) (a := ⟨P, 2, none⟩) HNW.out.2.1).trans e2⟩⟩
                          rw [hkl2, show (K ++ [(canonOf tk, ([] : List (List UInt8)))]).set K.length (canonOf tk, l) = K ++ [(canonOf tk, l)] by simp]
                          exact HQ.out.1.snoc (by rw [← HS.out.1.key.keys]; exact HKN.out) hl
                      · go_simp
                        refine hK.out _ _ e14 (fun _ => ?_)
                        clear hK K
                        (try simp only [List.getElem_toArray, List.getElem_cons_succ, List.getElem_cons_zero, Act.put, List.setIfInBounds_toArray, List.set_cons_zero, List.set_cons_succ])
                        refine wpAnyH_ready (rs := [0]) (by kernel_rfl) (by simp) ?_
                        refine AllReadyH.cons rfl (fun K hK => ?_) AllReadyH.nil
                        go_simp
                        refine hK.out _ _ (by assumption) (fun _ => ?_)
                        clear hK K
                        (try simp only [List.getElem_toArray, List.getElem_cons_succ, List.getElem_cons_zero, Act.put, List.setIfInBounds_toArray, List.set_cons_zero, List.set_cons_succ])
                        have hB0 : Below w2.heap.size w2 (w3.alloc (.cells #[.string ⟨(canonOf tk).toArray⟩, .slice none 0 0] 45)) := ((Below.refl w2.heap.size w2).drew.trans hb3).alloc hb3.size _
                        obtain ⟨kv6, w6, hrun6, ho6, hg6, hat6⟩ := run_append_E 43 (w3.alloc (.cells #[.string ⟨(canonOf tk).toArray⟩, .slice none 0 0] 45)) w.heap.size (.slice AE E.length cE) E (HS.out.1.key.own.of_blocks (fun x _ hl => hB0.block x hl)) w3.heap.size 1 (canonOf tk) (.slice none 0 0) rfl (Blk.cell (t := 45) (heap_alloc_new w3 _) 0) (Blk.cell (t := 45) (heap_alloc_new w3 _) 1) (by have := HQ.out.2.1; have := HQ.out.2.2.2.2.2; omega) (Nat.le_trans hsz2 hB0.size)
                        obtain ⟨A6, cc6, hk6, hk6l, hk6c, _, _⟩ := ho6.form
                        obtain rfl : kv6 = .slice A6 (E.length + 1) cc6 := by rw [hk6]; simp
                        clear hk6 hk6l hk6c
                        have hnew := HS.out.1.added hsz2 hB0 ho6 hg6 hat6
                        have e16 := (World.cell?_of_block (a := ⟨P, 1, none⟩) (hg6.block P (World.block_lt_of_cell? _ _ e14) (fun e => HPP.out.2 P e.symm rfl))).trans e14
                        have hb6 := hg6.block w.heap.size (World.block_lt_of_cell? _ _ cB4) (fun e => (HS.out.1.key.out _ e.symm).2 rfl)
                        have c6 := (World.cell?_of_block (a := ⟨w.heap.size, 0, none⟩) hb6).trans cB4
                        have f6 : w6.frozen? ⟨w.heap.size, 0, none⟩ = false := (World.frozen?_of_block (a := ⟨w.heap.size, 0, none⟩) (hb6.trans (hB0.block _ HS.out.1.key.ltB))).trans fB
                        have e17 : (w6.setCell ⟨w.heap.size, 0, none⟩ (.slice A6 (E.length + 1) cc6)).cell? ⟨P, 1, none⟩ = some (.string ⟨tk.toArray⟩) := (World.cell?_setCell_far _ _ _ _ HPP.out.1).trans e16
                        have hbP : (w6.setCell ⟨w.heap.size, 0, none⟩ (.slice A6 (E.length + 1) cc6)).heap[P]? = w2.heap[P]? := (Below.heap_setCell _ _ _ _ (fun e => HPP.out.1 e.symm)).trans ((hg6.block P (World.block_lt_of_cell? _ _ e14) (fun e => HPP.out.2 P e.symm rfl)).trans (hB0.block P (World.block_lt_of_cell? _ _ e1)))
                        have hown6 : ∀ x, (Value.slice A6 (E.length + 1) cc6).ownBlock = some x → x ≠ P := fun x hx => by
                          rcases hat6 with h | h
                          · exact HPP.out.2 x (h ▸ hx)
                          · rw [h] at hx; injection hx with hx; exact fun e => absurd (World.block_lt_of_cell? _ _ e14) (by rw [hx, e]; exact Nat.lt_irrefl _)
                        have HNW := Lib.hid (And.intro hnew (And.intro hbP (And.intro hB0 (And.intro hrun6 hown6))))
                        have HKN := Lib.hid hno
                        clear hnew hbP hown6 hg6 hB0 hrun6 ho6 hat6 hb6 hb3 hno
                        refine wpAnyH_ready (rs := [6]) (by kernel_rfl) (by simp) ?_
                        refine AllReadyH.cons rfl (fun K hK => ?_) AllReadyH.nil
                        rw [if_pos (by rfl)]
                        refine Lib.wp_append_run _ (.tmp 30) (.tmp 35) 43 43 rfl _ _ rfl rfl _ _ HNW.out.2.2.2.1 ?_
                        refine hK.out _ _ e16 (fun _ => ?_)
                        clear hK K
                        (try simp only [List.getElem_toArray, List.getElem_cons_succ, List.getElem_cons_zero, Act.put, List.setIfInBounds_toArray, List.set_cons_zero, List.set_cons_succ])
                        refine wpAnyH_ready (rs := [7]) (by kernel_rfl) (by simp) ?_
                        refine AllReadyH.cons rfl (fun K hK => ?_) AllReadyH.nil
                        go_simp
                        refine hK.out _ _ e17 (fun _ => ?_)
                        clear hK K
                        (try simp only [List.getElem_toArray, List.getElem_cons_succ, List.getElem_cons_zero, Act.put, List.setIfInBounds_toArray, List.set_cons_zero, List.set_cons_succ])
                        refine wpAnyH_done (by kernel_rfl) ?_ _
                        go_wp2
                        go_meet
                        case rel =>
                          have hkl2 := HQ.out.2.2.2.2.2
                          have hkk := HQ.out.2.1
                          refine ⟨E.length, [], rfl, by omega, Nat.zero_le _, Lib.hid (HQ.out.1.no (canonOf tk) (by rw [← HS.out.1.key.keys]; exact HKN.out)), Lib.hid ⟨⟨N, _, E ++ [(canonOf tk, .slice none 0 0)], K ++ [(canonOf tk, [])], .slice none 0 0, HNW.out.1.1, by simp, by rw [hkl2]; simp, by simp; omega, HNW.out.2.2.2.2, fun l hl => ?_⟩, HPP.out.1, HS.out.2.trans HNW.out.1.2, (World.cell?_of_block (w := w2) (a := ⟨P, 0, none⟩) HNW.out.2.1).trans e0, (World.cell?_of_block (w := w2) (a := ⟨P, 1, none⟩) HNW.out.2.1).trans e1, (World.cell?_of_block (w := w2) (a := ⟨P, 2, none⟩) HNW.out.2.1).trans e2⟩⟩
                          rw [hkl2, show (K ++ [(canonOf tk, ([] : List (List UInt8)))]).set K.length (canonOf tk, l) = K ++ [(canonOf tk, l)] by simp]
                          exact HQ.out.1.snoc (by rw [← HS.out.1.key.keys]; exact HKN.out) hl
                case rest =>
                  obtain ⟨i, l0, rfl, hil, hll, hfe, hmid0⟩ := hcut
                  have HR2 := Lib.hid HQ.out.2.2.1
                  have hkm : k + 1 ≤ 2500000000 := by omega
                  clear HS HQ HPP cB fB e0 e1 e2
                  have hmid := hmid0.out
                  clear hmid0
                  obtain ⟨⟨N1, kv1, E1, K1, u1, hs1, hE1, hK1, hKm, hkP, hrel1⟩, hbP, hb1, d0, d1, d2⟩ := hmid
                  have hi1 : i < E1.length := (List.getElem?_eq_some_iff.1 hE1).1
                  obtain ⟨A1, c1, rfl, hc1, hc1b, hKR1, hKB1⟩ := hs1.key.own.form
                  obtain ⟨g1, rfl, hx1⟩ := hKR1 (by rintro rfl; simp at hi1)
                  obtain ⟨_, _, cur1, hBlk1, _⟩ := hKB1 g1 0 none rfl
                  obtain ⟨AU, cU, hue, hUl, hUc, hUs, _⟩ := hs1.key.vals.2 i u1 l0 (by rw [List.getElem?_map, hE1]; rfl) (by rw [List.getElem?_map, hK1]; rfl)
                  subst hue
                  have s1 : wc.cell? ⟨g1, i * 2 + 1, none⟩ = some (.slice AU (l0).length cU) := (hx1 i _ hE1).2
                  have cB := hs1.key.cell
                  have fB := hs1.key.free
                  have fG : wc.frozen? ⟨g1, i * 2 + 1, none⟩ = false := hBlk1.free _
                  have hEl : E1.length ≤ 2500000001 := by have := hs1.key.len; omega
                  have HH0 := Lib.hid (And.intro hs1 (And.intro hE1 (And.intro hK1 (And.intro hKm (And.intro hkP (And.intro hrel1 (And.intro hbP hb1)))))))
                  clear hs1 hE1 hK1 hKm hkP hrel1 hbP hb1 hUs hKR1 hKB1 hx1 hBlk1
                  go_upto_region 16 with (fail)
                  have hmid : SpMid w.heap.size P i (.slice A0 vs.length c00) vs (runM (ts.take k)).1 (runM (ts.take k)).2 ⟨setB, tk, tv⟩ [] (k + 1) w (wc.setCell ⟨g1, i * 2 + 1, none⟩ (.slice none 0 0)) := by
                    obtain ⟨hs1, hE1, hK1, hKm, hkP, hrel1, hbP, hb1⟩ := HH0.out
                    have hg1P : g1 ≠ P := hkP g1 rfl
                    obtain ⟨N2, hn2, hbl2⟩ := hs1.laid hb1.size (Below.refl _ _) hE1 (u := .slice none 0 0) (l := []) (SVal.nil _ _)
                    refine ⟨⟨N2, _, _, _, .slice none 0 0, hn2, by rw [List.getElem?_set_self hi1], by rw [List.getElem?_set_self (List.getElem?_eq_some_iff.1 hK1).1], by rw [List.length_set]; exact hKm, hkP, fun l hl => by rw [List.set_set]; exact hrel1 l hl⟩, hbP, hb1.trans hbl2, ?_, ?_, ?_⟩
                    · exact (World.cell?_setCell_far _ _ _ _ (fun e => hg1P e)).trans d0
                    · exact (World.cell?_setCell_far _ _ _ _ (fun e => hg1P e)).trans d1
                    · exact (World.cell?_setCell_far _ _ _ _ (fun e => hg1P e)).trans d2
                  generalize wc.setCell ⟨g1, i * 2 + 1, none⟩ (.slice none 0 0) = wy at hmid ⊢
                  clear HH0 cB fB d0 d1 d2 s1 fG hEl hUl hUc hi1
                  clear wc
                  obtain ⟨⟨N1, kv1, E1, K1, u1, hs1, hE1, hK1, hKm, hkP, hrel1⟩, hbP, hb1, d0, d1, d2⟩ := hmid
                  have hi1 : i < E1.length := (List.getElem?_eq_some_iff.1 hE1).1
                  obtain ⟨A2, c2, rfl, hc2, hc3b, hKR1, hKB1⟩ := hs1.key.own.form
                  obtain ⟨g2, rfl, hx1⟩ := hKR1 (by rintro rfl; simp at hi1)
                  obtain ⟨_, _, cur1, hBlk1, _⟩ := hKB1 g2 0 none rfl
                  obtain ⟨AU, cU, hue, hUl, hUc, hUs, _⟩ := hs1.key.vals.2 i u1 ([] : List (List UInt8)) (by rw [List.getElem?_map, hE1]; rfl) (by rw [List.getElem?_map, hK1]; rfl)
                  subst hue
                  have s1 : wy.cell? ⟨g2, i * 2 + 1, none⟩ = some (.slice AU (([] : List (List UInt8))).length cU) := (hx1 i _ hE1).2
                  have cB := hs1.key.cell
                  have fB := hs1.key.free
                  have fG : wy.frozen? ⟨g2, i * 2 + 1, none⟩ = false := hBlk1.free _
                  have hEl : E1.length ≤ 2500000001 := by have := hs1.key.len; omega
                  have HH1 := Lib.hid (And.intro hs1 (And.intro hE1 (And.intro hK1 (And.intro hKm (And.intro hkP (And.intro hrel1 (And.intro hbP (And.intro hb1 hUs))))))))
                  clear hs1 hE1 hK1 hKm hkP hrel1 hbP hb1 hUs hKR1 hKB1 hx1 hBlk1
                  have HCL := Lib.hid (fun W (h : Below wy.heap.size wy W) => clone_any (c := cU) (HH1.out.2.2.2.2.2.2.2.2.below h) rfl (by have := hll; have := hkm; first | omega | (simp; done) | (simp; omega)))
                  refine wp_region_held_drew (S := fun wx => wx.cell? ⟨w.heap.size, 0, none⟩ = some (.slice (some ⟨g2, 0, none⟩) E1.length c2) ∧ wx.cell? ⟨P, 2, none⟩ = some (.string ⟨tv.toArray⟩)) (by kernel_rfl) ⟨cB, d2⟩ (fun hHeld => ?_)
                  refine wpAnyH_take (i := 0) (v := ?v0x23) rfl (by kernel_rfl) (by kernel_rfl) (by kernel_rfl) (fun _ _ _ h => h) (Or.inl ⟨by rfl, ?h0x23⟩) (by assumption) ?r0x23
                  case h0x23 => (intro w hSw; (try dsimp only at hSw); obtain ⟨hSw1, hSw2⟩ := hSw; go_simp; (try with_reducible rfl))
                  (try simp only [List.getElem_toArray, List.getElem_cons_zero, Act.put, List.setIfInBounds_toArray, List.set_cons_zero, List.set_cons_succ])
                  refine wpAnyH_take (i := 1) (v := ?v1x24) rfl (by kernel_rfl) (by kernel_rfl) (by kernel_rfl) (fun _ _ _ h => h) (Or.inl ⟨by rfl, ?h1x24⟩) (by assumption) ?r1x24
                  case h1x24 => (intro w hSw; (try dsimp only at hSw); obtain ⟨hSw1, hSw2⟩ := hSw; go_simp; (try with_reducible rfl))
                  (try simp only [List.getElem_toArray, List.getElem_cons_succ, List.getElem_cons_zero, Act.put, List.setIfInBounds_toArray, List.set_cons_zero, List.set_cons_succ])
                  refine wpAnyH_take (i := 2) (v := ?v2x25) rfl (by kernel_rfl) (by kernel_rfl) (by kernel_rfl) (fun _ _ _ h => h) (Or.inl ⟨by rfl, ?h2x25⟩) (by assumption) ?r2x25
                  case h2x25 => (intro w hSw; (try dsimp only at hSw); obtain ⟨hSw1, hSw2⟩ := hSw; go_simp; (try with_reducible rfl))
                  (try simp only [List.getElem_toArray, List.getElem_cons_succ, List.getElem_cons_zero, Act.put, List.setIfInBounds_toArray, List.set_cons_zero, List.set_cons_succ])
                  refine wpAnyH_take (i := 3) (v := ?v3x26) rfl (by kernel_rfl) (by kernel_rfl) (by kernel_rfl) (fun _ _ _ h => h) (Or.inl ⟨by rfl, ?h3x26⟩) (by assumption) ?r3x26
                  case h3x26 => (intro w hSw; (try dsimp only at hSw); obtain ⟨hSw1, hSw2⟩ := hSw; go_simp; (try with_reducible rfl))
                  (try simp only [List.getElem_toArray, List.getElem_cons_succ, List.getElem_cons_zero, Act.put, List.setIfInBounds_toArray, List.set_cons_zero, List.set_cons_succ])
                  refine wpAnyH_take (i := 4) (v := ?v4x27) rfl (by kernel_rfl) (by kernel_rfl) (by kernel_rfl) (fun _ _ _ h => h) (Or.inl ⟨by rfl, ?h4x27⟩) (by assumption) ?r4x27
                  case h4x27 => (intro w hSw; (try dsimp only at hSw); obtain ⟨hSw1, hSw2⟩ := hSw; go_simp; (try with_reducible rfl))
                  (try simp only [List.getElem_toArray, List.getElem_cons_succ, List.getElem_cons_zero, Act.put, List.setIfInBounds_toArray, List.set_cons_zero, List.set_cons_succ])
                  refine wpAnyH_take (i := 5) (v := ?v5x28) rfl (by kernel_rfl) (by kernel_rfl) (by kernel_rfl) (fun _ _ _ h => h) (Or.inl ⟨by rfl, ?h5x28⟩) (by assumption) ?r5x28
                  case h5x28 => (intro w hSw; (try dsimp only at hSw); obtain ⟨hSw1, hSw2⟩ := hSw; go_simp; (try with_reducible rfl))
                  (try simp only [List.getElem_toArray, List.getElem_cons_succ, List.getElem_cons_zero, Act.put, List.setIfInBounds_toArray, List.set_cons_zero, List.set_cons_succ])
                  refine wpAnyH_take (i := 8) (v := ?v8x29) rfl (by kernel_rfl) (by kernel_rfl) (by kernel_rfl) (fun _ _ _ h => h) (Or.inl ⟨by rfl, ?h8x29⟩) (by assumption) ?r8x29
                  case h8x29 => (intro w hSw; (try dsimp only at hSw); obtain ⟨hSw1, hSw2⟩ := hSw; go_simp; (try with_reducible rfl))
                  (try simp only [List.getElem_toArray, List.getElem_cons_succ, List.getElem_cons_zero, Act.put, List.setIfInBounds_toArray, List.set_cons_zero, List.set_cons_succ])
                  refine wpAnyH_take (i := 9) (v := ?v9x30) rfl (by kernel_rfl) (by kernel_rfl) (by kernel_rfl) (fun _ _ _ h => h) (Or.inl ⟨by rfl, ?h9x30⟩) (by assumption) ?r9x30
                  case h9x30 => (intro w hSw; (try dsimp only at hSw); obtain ⟨hSw1, hSw2⟩ := hSw; go_simp; (try with_reducible rfl))
                  (try simp only [List.getElem_toArray, List.getElem_cons_succ, List.getElem_cons_zero, Act.put, List.setIfInBounds_toArray, List.set_cons_zero, List.set_cons_succ])
                  refine wpAnyH_ready (rs := [6, 10]) (by kernel_rfl) (by simp) ?_
                  refine AllReadyH.cons rfl (fun K hK => ?_) (AllReadyH.cons rfl (fun K hK => ?_) AllReadyH.nil)
                  · go_simp
                    refine hK.out _ _ (by assumption) (fun _ => ?_)
                    clear hK K
                    (try simp only [List.getElem_toArray, List.getElem_cons_succ, List.getElem_cons_zero, Act.put, List.setIfInBounds_toArray, List.set_cons_zero, List.set_cons_succ])
                    refine wpAnyH_ready (rs := [7, 10]) (by kernel_rfl) (by simp) ?_
                    refine AllReadyH.cons rfl (fun K hK => ?_) (AllReadyH.cons rfl (fun K hK => ?_) AllReadyH.nil)
                    · skip
                      go_simp
                      go_wp2_with (go_at_call 36; refine (HCL.out _ (Below.refl wy.heap.size wy).drew).mono ?_; rintro e w3 ⟨⟨A7, c7, rfl, ho7⟩, hb7⟩)
                      have HB7 := Lib.hid (And.intro ho7 (((Below.refl wy.heap.size wy).drew).trans (hb7.mono ((Below.refl wy.heap.size wy).drew).size)))
                      have cB3 := (HB7.out.2.cell (p := ⟨w.heap.size, 0, none⟩) (World.block_lt_of_cell? _ _ cB)).trans cB
                      have d23 := (HB7.out.2.cell (p := ⟨P, 2, none⟩) (World.block_lt_of_cell? _ _ d2)).trans d2
                      refine hK.out _ _ ⟨cB3, d23⟩ (fun _ => ?_)
                      clear hK K
                      (try simp only [List.getElem_toArray, List.getElem_cons_succ, List.getElem_cons_zero, Act.put, List.setIfInBounds_toArray, List.set_cons_zero, List.set_cons_succ])
                      refine wpAnyH_ready (rs := [10]) (by kernel_rfl) (by simp) ?_
                      refine AllReadyH.cons rfl (fun K hK => ?_) AllReadyH.nil
                      go_simp
                      have cB4 := Lib.cell?_alloc_some (.cells #[.string ⟨tv.toArray⟩] 9) cB3
                      have d24 := Lib.cell?_alloc_some (.cells #[.string ⟨tv.toArray⟩] 9) d23
                      refine hK.out _ _ ⟨cB4, d24⟩ (fun _ => ?_)
                      clear hK K
                      (try simp only [List.getElem_toArray, List.getElem_cons_succ, List.getElem_cons_zero, Act.put, List.setIfInBounds_toArray, List.set_cons_zero, List.set_cons_succ])
                      have hB4 : Below wy.heap.size wy (w3.alloc (.cells #[.string ⟨tv.toArray⟩] 9)) := HB7.out.2.alloc HB7.out.2.size _
                      have ho4 : OS (w3.alloc (.cells #[.string ⟨tv.toArray⟩] 9)) wy.heap.size (.slice A7 (([] : List (List UInt8))).length c7) (([] : List (List UInt8))) := HB7.out.1.alloc _
                      have hs4 : SL (w3.alloc (.cells #[.string ⟨tv.toArray⟩] 9)) (some ⟨w3.heap.size, 0, none⟩) [tv] := SL.one w3 tv 9
                      obtain ⟨u6, w6, hrun6, ho6, hg6, _⟩ := run_append_S 31 31 Try.underlying31 (w3.alloc (.cells #[.string ⟨tv.toArray⟩] 9)) wy.heap.size (.slice A7 (([] : List (List UInt8))).length c7) (([] : List (List UInt8))) ho4 (some ⟨w3.heap.size, 0, none⟩) [tv] 1 hs4 (by have := hll; have := hkm; first | omega | (simp; done) | (simp; omega)) hB4.size
                      obtain ⟨A6, cc6, hk6, _⟩ := ho6.form
                      obtain rfl : u6 = .slice A6 ((([] : List (List UInt8))).length + 1) cc6 := by rw [hk6]; simp
                      clear hk6
                      have hB6 : Below wy.heap.size wy w6 := hB4.trans ((Below.refl _ _).grown hg6 hB4.size (fun k hk => (ho4.lt k hk).1))
                      have s6 := (hB6.cell (p := ⟨g2, i * 2 + 1, none⟩) (World.block_lt_of_cell? _ _ s1)).trans s1
                      have f6 : w6.frozen? ⟨g2, i * 2 + 1, none⟩ = false := (hB6.frozen (World.block_lt_of_cell? _ _ s1)).trans fG
                      have cB6 := (hB6.cell (p := ⟨w.heap.size, 0, none⟩) (World.block_lt_of_cell? _ _ cB)).trans cB
                      have d26 := (hB6.cell (p := ⟨P, 2, none⟩) (World.block_lt_of_cell? _ _ d2)).trans d2
                      have cB8 : (w6.setCell ⟨g2, i * 2 + 1, none⟩ (.slice A6 ((([] : List (List UInt8))).length + 1) cc6)).cell? ⟨w.heap.size, 0, none⟩ = some (.slice (some ⟨g2, 0, none⟩) E1.length c2) := (World.cell?_setCell_far _ _ _ _ (fun e => (HH1.out.1.key.out g2 rfl).2 e)).trans cB6
                      have d28 : (w6.setCell ⟨g2, i * 2 + 1, none⟩ (.slice A6 ((([] : List (List UInt8))).length + 1) cc6)).cell? ⟨P, 2, none⟩ = some (.string ⟨tv.toArray⟩) := (World.cell?_setCell_far _ _ _ _ (fun e => HH1.out.2.2.2.2.1 g2 rfl e)).trans d26
                      have HN3 := Lib.hid (And.intro (HH1.out.1.laid HH1.out.2.2.2.2.2.2.2.1.size hB6 HH1.out.2.1 (u := .slice A6 ((([] : List (List UInt8))).length + 1) cc6) (l := ([] : List (List UInt8)) ++ [tv]) (by have := ho6.sval; simpa using this)) hrun6)
                      clear ho6 hg6 hB6 hB4 ho4 hs4 hrun6
                      refine wpAnyH_ready (rs := [11]) (by kernel_rfl) (by simp) ?_
                      refine AllReadyH.cons rfl (fun K hK => ?_) AllReadyH.nil
                      rw [if_pos (by rfl)]
                      refine Lib.wp_append_run _ (.tmp 51) (.tmp 54) 31 31 rfl _ _ rfl rfl _ _ HN3.out.2 ?_
                      refine hK.out _ _ ⟨cB6, d26⟩ (fun _ => ?_)
                      clear hK K
                      (try simp only [List.getElem_toArray, List.getElem_cons_succ, List.getElem_cons_zero, Act.put, List.setIfInBounds_toArray, List.set_cons_zero, List.set_cons_succ])
                      refine wpAnyH_take (i := 12) (v := ?v12x31) rfl (by kernel_rfl) (by kernel_rfl) (by kernel_rfl) (fun _ _ _ h => h) (Or.inl ⟨by rfl, ?h12x31⟩) (by assumption) ?r12x31
                      case h12x31 => (intro w hSw; (try dsimp only at hSw); obtain ⟨hSw1, hSw2⟩ := hSw; go_simp; (try with_reducible rfl))
                      (try simp only [List.getElem_toArray, List.getElem_cons_succ, List.getElem_cons_zero, Act.put, List.setIfInBounds_toArray, List.set_cons_zero, List.set_cons_succ])
                      refine wpAnyH_take (i := 13) (v := ?v13x32) rfl (by kernel_rfl) (by kernel_rfl) (by kernel_rfl) (fun _ _ _ h => h) (Or.inl ⟨by rfl, ?h13x32⟩) (by assumption) ?r13x32
                      case h13x32 => (intro w hSw; (try dsimp only at hSw); obtain ⟨hSw1, hSw2⟩ := hSw; go_simp; (try with_reducible rfl))
                      (try simp only [List.getElem_toArray, List.getElem_cons_succ, List.getElem_cons_zero, Act.put, List.setIfInBounds_toArray, List.set_cons_zero, List.set_cons_succ])
                      refine wpAnyH_ready (rs := [14]) (by kernel_rfl) (by simp) ?_
                      refine AllReadyH.cons rfl (fun K hK => ?_) AllReadyH.nil
                      go_simp
                      refine hK.out _ _ ⟨cB8, d28⟩ (fun _ => ?_)
                      clear hK K
                      (try simp only [List.getElem_toArray, List.getElem_cons_succ, List.getElem_cons_zero, Act.put, List.setIfInBounds_toArray, List.set_cons_zero, List.set_cons_succ])
                      refine wpAnyH_done (by kernel_rfl) ?_ _
                      go_wp2
                      go_roundg (gk - 1)
                      case measure => omega
                      case rel =>
                        obtain ⟨N3, hn3, hbl3⟩ := HN3.out.1
                        exact ⟨k + 1, by omega, by go_num, Lib.hid (SpAt.next (s := (updF (runM (ts.take k)).1 (canonOf tk) (([] : List (List UInt8)) ++ [tv]), (runM (ts.take k)).2)) hn3 (HH1.out.2.2.2.2.2.1 _ (by simp)) (by rw [List.length_set]; exact HH1.out.2.2.2.1) (by rw [HR2.out]; exact stepM_set _ _ _)), HH1.out.2.2.2.2.2.2.2.1.trans hbl3⟩
                    · go_simp
                      have cBA := Lib.cell?_alloc_some (W := (wy.drew)) (.cells #[.string ⟨tv.toArray⟩] 9) cB
                      have d2A := Lib.cell?_alloc_some (W := (wy.drew)) (.cells #[.string ⟨tv.toArray⟩] 9) d2
                      have s1A := Lib.cell?_alloc_some (W := wy) (.cells #[.string ⟨tv.toArray⟩] 9) s1
                      refine hK.out _ _ ⟨cBA, d2A⟩ (fun _ => ?_)
                      clear hK K
                      (try simp only [List.getElem_toArray, List.getElem_cons_succ, List.getElem_cons_zero, Act.put, List.setIfInBounds_toArray, List.set_cons_zero, List.set_cons_succ])
                      refine wpAnyH_ready (rs := [7]) (by kernel_rfl) (by simp) ?_
                      refine AllReadyH.cons rfl (fun K hK => ?_) AllReadyH.nil
                      go_simp
                      go_wp2_with (go_at_call 36; refine (HCL.out _ ((Below.refl wy.heap.size wy).drew.alloc (Nat.le_refl _) (.cells #[.string ⟨tv.toArray⟩] 9))).mono ?_; rintro e w3 ⟨⟨A7, c7, rfl, ho7⟩, hb7⟩)
                      have HB7 := Lib.hid (And.intro ho7 ((((Below.refl wy.heap.size wy).drew.alloc (Nat.le_refl _) (.cells #[.string ⟨tv.toArray⟩] 9))).trans (hb7.mono (((Below.refl wy.heap.size wy).drew.alloc (Nat.le_refl _) (.cells #[.string ⟨tv.toArray⟩] 9))).size)))
                      have cB3 := (HB7.out.2.cell (p := ⟨w.heap.size, 0, none⟩) (World.block_lt_of_cell? _ _ cB)).trans cB
                      have d23 := (HB7.out.2.cell (p := ⟨P, 2, none⟩) (World.block_lt_of_cell? _ _ d2)).trans d2
                      refine hK.out _ _ ⟨cB3, d23⟩ (fun _ => ?_)
                      clear hK K
                      (try simp only [List.getElem_toArray, List.getElem_cons_succ, List.getElem_cons_zero, Act.put, List.setIfInBounds_toArray, List.set_cons_zero, List.set_cons_succ])
                      have hB4 : Below wy.heap.size wy w3 := HB7.out.2
                      have ho4 : OS w3 wy.heap.size (.slice A7 (([] : List (List UInt8))).length c7) (([] : List (List UInt8))) := HB7.out.1.mono (Nat.le_of_lt (by simp))
                      have hs4 : SL w3 (some ⟨wy.heap.size, 0, none⟩) [tv] := (SL.one (wy.drew) tv 9).below hb7
                      obtain ⟨u6, w6, hrun6, ho6, hg6, _⟩ := run_append_S 31 31 Try.underlying31 w3 wy.heap.size (.slice A7 (([] : List (List UInt8))).length c7) (([] : List (List UInt8))) ho4 (some ⟨wy.heap.size, 0, none⟩) [tv] 1 hs4 (by have := hll; have := hkm; first | omega | (simp; done) | (simp; omega)) hB4.size
                      obtain ⟨A6, cc6, hk6, _⟩ := ho6.form
                      obtain rfl : u6 = .slice A6 ((([] : List (List UInt8))).length + 1) cc6 := by rw [hk6]; simp
                      clear hk6
                      have hB6 : Below wy.heap.size wy w6 := hB4.trans ((Below.refl _ _).grown hg6 hB4.size (fun k hk => (ho4.lt k hk).1))
                      have s6 := (hB6.cell (p := ⟨g2, i * 2 + 1, none⟩) (World.block_lt_of_cell? _ _ s1)).trans s1
                      have f6 : w6.frozen? ⟨g2, i * 2 + 1, none⟩ = false := (hB6.frozen (World.block_lt_of_cell? _ _ s1)).trans fG
                      have cB6 := (hB6.cell (p := ⟨w.heap.size, 0, none⟩) (World.block_lt_of_cell? _ _ cB)).trans cB
                      have d26 := (hB6.cell (p := ⟨P, 2, none⟩) (World.block_lt_of_cell? _ _ d2)).trans d2
                      have cB8 : (w6.setCell ⟨g2, i * 2 + 1, none⟩ (.slice A6 ((([] : List (List UInt8))).length + 1) cc6)).cell? ⟨w.heap.size, 0, none⟩ = some (.slice (some ⟨g2, 0, none⟩) E1.length c2) := (World.cell?_setCell_far _ _ _ _ (fun e => (HH1.out.1.key.out g2 rfl).2 e)).trans cB6
                      have d28 : (w6.setCell ⟨g2, i * 2 + 1, none⟩ (.slice A6 ((([] : List (List UInt8))).length + 1) cc6)).cell? ⟨P, 2, none⟩ = some (.string ⟨tv.toArray⟩) := (World.cell?_setCell_far _ _ _ _ (fun e => HH1.out.2.2.2.2.1 g2 rfl e)).trans d26
                      have HN3 := Lib.hid (And.intro (HH1.out.1.laid HH1.out.2.2.2.2.2.2.2.1.size hB6 HH1.out.2.1 (u := .slice A6 ((([] : List (List UInt8))).length + 1) cc6) (l := ([] : List (List UInt8)) ++ [tv]) (by have := ho6.sval; simpa using this)) hrun6)
                      clear ho6 hg6 hB6 hB4 ho4 hs4 hrun6
                      refine wpAnyH_ready (rs := [11]) (by kernel_rfl) (by simp) ?_
                      refine AllReadyH.cons rfl (fun K hK => ?_) AllReadyH.nil
                      rw [if_pos (by rfl)]
                      refine Lib.wp_append_run _ (.tmp 51) (.tmp 54) 31 31 rfl _ _ rfl rfl _ _ HN3.out.2 ?_
                      refine hK.out _ _ ⟨cB6, d26⟩ (fun _ => ?_)
                      clear hK K
                      (try simp only [List.getElem_toArray, List.getElem_cons_succ, List.getElem_cons_zero, Act.put, List.setIfInBounds_toArray, List.set_cons_zero, List.set_cons_succ])
                      refine wpAnyH_take (i := 12) (v := ?v12x33) rfl (by kernel_rfl) (by kernel_rfl) (by kernel_rfl) (fun _ _ _ h => h) (Or.inl ⟨by rfl, ?h12x33⟩) (by assumption) ?r12x33
                      case h12x33 => (intro w hSw; (try dsimp only at hSw); obtain ⟨hSw1, hSw2⟩ := hSw; go_simp; (try with_reducible rfl))
                      (try simp only [List.getElem_toArray, List.getElem_cons_succ, List.getElem_cons_zero, Act.put, List.setIfInBounds_toArray, List.set_cons_zero, List.set_cons_succ])
                      refine wpAnyH_take (i := 13) (v := ?v13x34) rfl (by kernel_rfl) (by kernel_rfl) (by kernel_rfl) (fun _ _ _ h => h) (Or.inl ⟨by rfl, ?h13x34⟩) (by assumption) ?r13x34
                      case h13x34 => (intro w hSw; (try dsimp only at hSw); obtain ⟨hSw1, hSw2⟩ := hSw; go_simp; (try with_reducible rfl))
                      (try simp only [List.getElem_toArray, List.getElem_cons_succ, List.getElem_cons_zero, Act.put, List.setIfInBounds_toArray, List.set_cons_zero, List.set_cons_succ])
                      refine wpAnyH_ready (rs := [14]) (by kernel_rfl) (by simp) ?_
                      refine AllReadyH.cons rfl (fun K hK => ?_) AllReadyH.nil
                      go_simp
                      refine hK.out _ _ ⟨cB8, d28⟩ (fun _ => ?_)
                      clear hK K
                      (try simp only [List.getElem_toArray, List.getElem_cons_succ, List.getElem_cons_zero, Act.put, List.setIfInBounds_toArray, List.set_cons_zero, List.set_cons_succ])
                      refine wpAnyH_done (by kernel_rfl) ?_ _
                      go_wp2
                      go_roundg (gk - 1)
                      case measure => omega
                      case rel =>
                        obtain ⟨N3, hn3, hbl3⟩ := HN3.out.1
                        exact ⟨k + 1, by omega, by go_num, Lib.hid (SpAt.next (s := (updF (runM (ts.take k)).1 (canonOf tk) (([] : List (List UInt8)) ++ [tv]), (runM (ts.take k)).2)) hn3 (HH1.out.2.2.2.2.2.1 _ (by simp)) (by rw [List.length_set]; exact HH1.out.2.2.2.1) (by rw [HR2.out]; exact stepM_set _ _ _)), HH1.out.2.2.2.2.2.2.2.1.trans hbl3⟩
                  · go_simp
                    have cBA := Lib.cell?_alloc_some (W := (wy.drew)) (.cells #[.string ⟨tv.toArray⟩] 9) cB
                    have d2A := Lib.cell?_alloc_some (W := (wy.drew)) (.cells #[.string ⟨tv.toArray⟩] 9) d2
                    have s1A := Lib.cell?_alloc_some (W := wy) (.cells #[.string ⟨tv.toArray⟩] 9) s1
                    refine hK.out _ _ ⟨cBA, d2A⟩ (fun _ => ?_)
                    clear hK K
                    (try simp only [List.getElem_toArray, List.getElem_cons_succ, List.getElem_cons_zero, Act.put, List.setIfInBounds_toArray, List.set_cons_zero, List.set_cons_succ])
                    refine wpAnyH_ready (rs := [6]) (by kernel_rfl) (by simp) ?_
                    refine AllReadyH.cons rfl (fun K hK => ?_) AllReadyH.nil
                    go_simp
                    refine hK.out _ _ ⟨cBA, d2A⟩ (fun _ => ?_)
                    clear hK K
                    (try simp only [List.getElem_toArray, List.getElem_cons_succ, List.getElem_cons_zero, Act.put, List.setIfInBounds_toArray, List.set_cons_zero, List.set_cons_succ])
                    refine wpAnyH_ready (rs := [7]) (by kernel_rfl) (by simp) ?_
                    refine AllReadyH.cons rfl (fun K hK => ?_) AllReadyH.nil
                    go_simp
                    go_wp2_with (go_at_call 36; refine (HCL.out _ ((Below.refl wy.heap.size wy).drew.alloc (Nat.le_refl _) (.cells #[.string ⟨tv.toArray⟩] 9))).mono ?_; rintro e w3 ⟨⟨A7, c7, rfl, ho7⟩, hb7⟩)
                    have HB7 := Lib.hid (And.intro ho7 ((((Below.refl wy.heap.size wy).drew.alloc (Nat.le_refl _) (.cells #[.string ⟨tv.toArray⟩] 9))).trans (hb7.mono (((Below.refl wy.heap.size wy).drew.alloc (Nat.le_refl _) (.cells #[.string ⟨tv.toArray⟩] 9))).size)))
                    have cB3 := (HB7.out.2.cell (p := ⟨w.heap.size, 0, none⟩) (World.block_lt_of_cell? _ _ cB)).trans cB
                    have d23 := (HB7.out.2.cell (p := ⟨P, 2, none⟩) (World.block_lt_of_cell? _ _ d2)).trans d2
                    refine hK.out _ _ ⟨cB3, d23⟩ (fun _ => ?_)
                    clear hK K
                    (try simp only [List.getElem_toArray, List.getElem_cons_succ, List.getElem_cons_zero, Act.put, List.setIfInBounds_toArray, List.set_cons_zero, List.set_cons_succ])
                    have hB4 : Below wy.heap.size wy w3 := HB7.out.2
                    have ho4 : OS w3 wy.heap.size (.slice A7 (([] : List (List UInt8))).length c7) (([] : List (List UInt8))) := HB7.out.1.mono (Nat.le_of_lt (by simp))
                    have hs4 : SL w3 (some ⟨wy.heap.size, 0, none⟩) [tv] := (SL.one (wy.drew) tv 9).below hb7
                    obtain ⟨u6, w6, hrun6, ho6, hg6, _⟩ := run_append_S 31 31 Try.underlying31 w3 wy.heap.size (.slice A7 (([] : List (List UInt8))).length c7) (([] : List (List UInt8))) ho4 (some ⟨wy.heap.size, 0, none⟩) [tv] 1 hs4 (by have := hll; have := hkm; first | omega | (simp; done) | (simp; omega)) hB4.size
                    obtain ⟨A6, cc6, hk6, _⟩ := ho6.form
                    obtain rfl : u6 = .slice A6 ((([] : List (List UInt8))).length + 1) cc6 := by rw [hk6]; simp
                    clear hk6
                    have hB6 : Below wy.heap.size wy w6 := hB4.trans ((Below.refl _ _).grown hg6 hB4.size (fun k hk => (ho4.lt k hk).1))
                    have s6 := (hB6.cell (p := ⟨g2, i * 2 + 1, none⟩) (World.block_lt_of_cell? _ _ s1)).trans s1
                    have f6 : w6.frozen? ⟨g2, i * 2 + 1, none⟩ = false := (hB6.frozen (World.block_lt_of_cell? _ _ s1)).trans fG
                    have cB6 := (hB6.cell (p := ⟨w.heap.size, 0, none⟩) (World.block_lt_of_cell? _ _ cB)).trans cB
                    have d26 := (hB6.cell (p := ⟨P, 2, none⟩) (World.block_lt_of_cell? _ _ d2)).trans d2
                    have cB8 : (w6.setCell ⟨g2, i * 2 + 1, none⟩ (.slice A6 ((([] : List (List UInt8))).length + 1) cc6)).cell? ⟨w.heap.size, 0, none⟩ = some (.slice (some ⟨g2, 0, none⟩) E1.length c2) := (World.cell?_setCell_far _ _ _ _ (fun e => (HH1.out.1.key.out g2 rfl).2 e)).trans cB6
                    have d28 : (w6.setCell ⟨g2, i * 2 + 1, none⟩ (.slice A6 ((([] : List (List UInt8))).length + 1) cc6)).cell? ⟨P, 2, none⟩ = some (.string ⟨tv.toArray⟩) := (World.cell?_setCell_far _ _ _ _ (fun e => HH1.out.2.2.2.2.1 g2 rfl e)).trans d26
                    have HN3 := Lib.hid (And.intro (HH1.out.1.laid HH1.out.2.2.2.2.2.2.2.1.size hB6 HH1.out.2.1 (u := .slice A6 ((([] : List (List UInt8))).length + 1) cc6) (l := ([] : List (List UInt8)) ++ [tv]) (by have := ho6.sval; simpa using this)) hrun6)
                    clear ho6 hg6 hB6 hB4 ho4 hs4 hrun6
                    refine wpAnyH_ready (rs := [11]) (by kernel_rfl) (by simp) ?_
                    refine AllReadyH.cons rfl (fun K hK => ?_) AllReadyH.nil
                    rw [if_pos (by rfl)]
                    refine Lib.wp_append_run _ (.tmp 51) (.tmp 54) 31 31 rfl _ _ rfl rfl _ _ HN3.out.2 ?_
                    refine hK.out _ _ ⟨cB6, d26⟩ (fun _ => ?_)
                    clear hK K
                    (try simp only [List.getElem_toArray, List.getElem_cons_succ, List.getElem_cons_zero, Act.put, List.setIfInBounds_toArray, List.set_cons_zero, List.set_cons_succ])
                    refine wpAnyH_take (i := 12) (v := ?v12x35) rfl (by kernel_rfl) (by kernel_rfl) (by kernel_rfl) (fun _ _ _ h => h) (Or.inl ⟨by rfl, ?h12x35⟩) (by assumption) ?r12x35
                    case h12x35 => (intro w hSw; (try dsimp only at hSw); obtain ⟨hSw1, hSw2⟩ := hSw; go_simp; (try with_reducible rfl))
                    (try simp only [List.getElem_toArray, List.getElem_cons_succ, List.getElem_cons_zero, Act.put, List.setIfInBounds_toArray, List.set_cons_zero, List.set_cons_succ])
                    refine wpAnyH_take (i := 13) (v := ?v13x36) rfl (by kernel_rfl) (by kernel_rfl) (by kernel_rfl) (fun _ _ _ h => h) (Or.inl ⟨by rfl, ?h13x36⟩) (by assumption) ?r13x36
                    case h13x36 => (intro w hSw; (try dsimp only at hSw); obtain ⟨hSw1, hSw2⟩ := hSw; go_simp; (try with_reducible rfl))
                    (try simp only [List.getElem_toArray, List.getElem_cons_succ, List.getElem_cons_zero, Act.put, List.setIfInBounds_toArray, List.set_cons_zero, List.set_cons_succ])
                    refine wpAnyH_ready (rs := [14]) (by kernel_rfl) (by simp) ?_
                    refine AllReadyH.cons rfl (fun K hK => ?_) AllReadyH.nil
                    go_simp
                    refine hK.out _ _ ⟨cB8, d28⟩ (fun _ => ?_)
                    clear hK K
                    (try simp only [List.getElem_toArray, List.getElem_cons_succ, List.getElem_cons_zero, Act.put, List.setIfInBounds_toArray, List.set_cons_zero, List.set_cons_succ])
                    refine wpAnyH_done (by kernel_rfl) ?_ _
                    go_wp2
                    go_roundg (gk - 1)
                    case measure => omega
                    case rel =>
                      obtain ⟨N3, hn3, hbl3⟩ := HN3.out.1
                      exact ⟨k + 1, by omega, by go_num, Lib.hid (SpAt.next (s := (updF (runM (ts.take k)).1 (canonOf tk) (([] : List (List UInt8)) ++ [tv]), (runM (ts.take k)).2)) hn3 (HH1.out.2.2.2.2.2.1 _ (by simp)) (by rw [List.length_set]; exact HH1.out.2.2.2.1) (by rw [HR2.out]; exact stepM_set _ _ _)), HH1.out.2.2.2.2.2.2.2.1.trans hbl3⟩
            · have q1 : (tc == [65, 100, 100]) = false := beq_eq_false_iff_ne.2 (fun e => has (.inl e))
              have q2 : (tc == [83, 101, 116]) = false := beq_eq_false_iff_ne.2 (fun e => has (.inr e))
              have q3 : (tc == [68, 101, 108]) = false := beq_eq_false_iff_ne.2 hd
              have q4 : (tc == [71, 101, 116]) = false := beq_eq_false_iff_ne.2 hge
              have q5 : (tc == [86, 97, 108, 117, 101, 115]) = false := beq_eq_false_iff_ne.2 hva
              have HH := Lib.hid (And.intro has (And.intro hd (And.intro hge hva)))
              clear has hd hge hva
              generalize keyIdx E (canonOf tk) = ix
              refine Lib.hid ?_
              go_wp2
              go_roundg (gk - 1)
              case measure => omega
              case rel =>
                have hst : stepM (runM (ts.take k)) ⟨tc, tk, tv⟩ = runM (ts.take k) := by
                  obtain ⟨h1, h2, h3, h4⟩ := HH.out
                  unfold stepM
                  rw [if_neg (fun e => h1 (.inl e)), if_neg (fun e => h1 (.inr e)), if_neg h2, if_neg h3, if_neg h4]
                exact ⟨k + 1, by omega, by go_num, Lib.hid (SpAt.next (s := runM (ts.take k)) HS.out.1 HQ.out.1 (Nat.le_succ_of_le HQ.out.2.1) (by rw [HQ.out.2.2.1, hst])), HS.out.2⟩
    · obtain ⟨N, kv, E, K, vs, hss, _, _⟩ := hrun.out
      obtain ⟨A0, c00, rfl, hc0, hc00, _⟩ := hss.outs.own.form
      have HR := Lib.hid (And.intro hss.outs hb)
      have hk2 : ts.take k = ts := List.take_of_length_le (by omega)
      rw [hk2] at HR
      clear hrun hss hb hc0 hc00 hk2
      go_wp2
      go_ret
      exact ⟨⟨N, vs, A0, c00, rfl, HR.out.1⟩, HR.out.2⟩
end Go.Proofs.Ytaoedejenjfhoaa
