/- The walk of impl.Headers. -/
import Derived.Test.YtilhgjcjofobeaaDoorZCd
import Derived.Test.YtilhgjcjofobeaaDoorZRmB
namespace Go.Proofs.YtilhgjcjofobeaaDoor
open Go.RowKit Go.Maps

set_option maxRecDepth 200000 in
theorem readMime_any {K : Und} (hK : FillOK K) {base t p bb : Nat} {E : Nat → Addr} {gs : List Nat} {v : Value} {w : World} {S R : List UInt8} (h : Tb K base E gs t p bb v w S) (hg : 0 ∈ gs) (hf : 5 ∈ gs) (hS : S.length ≤ 4398046511104) {c0 : UInt8} {T : List UInt8} (hc : S = c0 :: T) (hb0 : blank c0 = false)
    {N : Nat} {ff : HdrF} {er : Er} (hok : HOk S (fun _ => []) N ff er R) (hN : N ≤ 1000) :
    Calls Tryd.prog 18 #[.pointer (some ⟨t, 0, none⟩)] w (HEnd K base E gs t p bb N ff er R w) := by
  have H := Lib.hid (readHdr_any hK h hg hf hS hc hb0 hok hN)
  clear h hg hf hS hc hb0 hok hN
  go_enter Tryd.func18, Tryd.ntmps18
  go_wp2_with (go_at_call 35; refine H.out.mono ?_; rintro e w1 ⟨b, sb, pos, val, v', rfl, h1, h2, h3⟩)
  go_ret2
  exact ⟨b, sb, pos, val, v', rfl, h1, h2, h3⟩
theorem at_appendH {P : Program} {ops : Array Oper} {Q : Exit → Act → World → Prop} {a : Act} {w : World} {rest : List Oper} {d : Option Tmp} {s x : Operand} {t : TypeId} {p : String} {af : Array Edge} {g : Option (Nat × Bool)}
    (h : wpList P ops Q (⟨d, .call ⟨.builtin .append, #[s, x], #[26, 26]⟩, t, p, af, g⟩ :: rest) a w) : wpList P ops Q (⟨d, .call ⟨.builtin .append, #[s, x], #[26, 26]⟩, t, p, af, g⟩ :: rest) a w := h
/-- What impl.Headers gives. -/
def HeadersEnd (ff : HdrF) (er : Er) (R : List UInt8) (w : World) (e : Ending) (w' : World) : Prop :=
  ∃ (A1 A2 : Option Addr) (c1 c2 : Nat) (X : List HX), e = .returned (.tuple #[.slice A1 X.length c1, .int .i64 er.num, .slice A2 R.length c2]) ∧ KR w' A1 (X.map unH) ∧ RB w' A2 R ∧ R.length ≤ c2 ∧ c2 ≤ 9223372036854775807 ∧
    (∀ x ∈ X, ∃ A c n, x.2 = (A, n, c) ∧ n = (ff x.1).length ∧ SL w' A (ff x.1)) ∧ X.Pairwise (fun x y => x.1 < y.1) ∧ (∀ k, k ∈ X.map (·.1) ↔ ff k ≠ []) ∧ X.length ≤ 1000 ∧ Below w.heap.size w w'
set_option maxRecDepth 200000 in
set_option maxHeartbeats 6400000 in
theorem implHeaders_any {w : World} {E : Nat → Addr} {gs : List Nat} (hs : Sens w E gs) {A : Option Addr} {n c : Nat} {S R : List UInt8} (hn : n = S.length) (hr : RB w A S) (hS : S.length ≤ 4398046511104) {c0 : UInt8} {T : List UInt8} (hc : S = c0 :: T) (hb0 : blank c0 = false)
    (hg : 0 ∈ gs) (hk : 1 ∈ gs) (hf : 5 ∈ gs) {N : Nat} {ff : HdrF} {er : Er} (hok : HOk S (fun _ => []) N ff er R) (hN : N ≤ 1000) (hi : er.in gs) (hR : R.length ≤ S.length) :
    Calls Tryd.prog 8 #[.slice A n c] w (HeadersEnd ff er R w) := by
  have hrd := reader_any (c := c) hs hn hr (by omega)
  have HR := Lib.hid (And.intro hrd (And.intro hok (And.intro hN (And.intro hi (And.intro hR (And.intro hS (And.intro hs (And.intro hc hb0))))))))
  clear hrd hok hN hi hR hS hs hr hn hc hb0
  go_enter Tryd.func8, Tryd.ntmps8
  go_wp2_with (go_at_call 17; refine HR.out.1.mono ?_; rintro e w1 ⟨q, sb, t, p, bb, rfl, hqs, hT1, hb1⟩; refine Hid.out ?_)
  have hTb : Tb (KB q sb) w.heap.size E gs t p bb (.slice none 0 0) w1 S := ⟨hT1, ⟨[], OB.nil _ _⟩, fun k e => by cases e⟩
  have hrm := readMime_any (fillB q sb hqs) hTb hg hf HR.out.2.2.2.2.2.1 HR.out.2.2.2.2.2.2.2.1 HR.out.2.2.2.2.2.2.2.2 HR.out.2.1 HR.out.2.2.1
  have H1 := Lib.hid (And.intro hqs (And.intro hTb (And.intro hrm hb1)))
  clear hqs hTb hrm hb1 hT1
  refine Lib.hid ?_
  go_wp2_with (go_at_call 18; refine H1.out.2.2.1.mono ?_; rintro e w2 ⟨b, sb2, pos, val, v2, rfl, hh2, hT2, hb2⟩; refine Hid.out ?_)
  have H2 := Lib.hid (And.intro hh2 (And.intro hT2 hb2))
  clear hh2 hT2 hb2
  refine Lib.hid ?_
  go_wp2_with (first | (at_range; refine wpList_rangeM rfl _ rfl b _ val rfl H2.out.1.map ?_; intro w3 left cnt hm3 hl3 hc3 hg3 hs3) | go_in)
  go_frame
  have hstart : HLs b w2.heap.size N val ff w2 (.slice none 0 0) w3 [] left cnt := ⟨hm3, OE.nil _ _, fun e he => (by cases he), List.nodup_nil, fun k => ⟨fun h => (by cases h), fun h => (by have := (hl3 k).2 h.1; rw [h.2] at this; cases this)⟩, fun k h => (hl3 k).1 h, by simpa using hc3,
    (Below.refl _ _).grown hg3 (Nat.le_refl _) (fun j hj => (by cases hj)), by omega, H2.out.1.map.lt⟩
  have HS := Lib.hid hstart
  clear hstart hm3 hl3 hc3 hg3 hs3
  go_loopw [8] (fun u8 wr => ∃ (E1 : List (List UInt8 × Value)) (left : List UInt8 → Bool) (cnt : Nat), Hid (HLs b w2.heap.size N val ff w2 u8 wr E1 left cnt)) (fun _ wr => wr.rangeLeft b w2.heap.size)
  case atStart => exact ⟨[], left, cnt, HS⟩
  case round =>
    clear HS
    obtain ⟨E1, left1, cnt1, hq⟩ := hrel
    have HN := Lib.hid (show N ≤ 1000 from HR.out.2.2.1)
    go_wp2_with (first | (at_next; refine wpList_nextM rfl _ rfl b _ _ val left1 cnt1 rfl hq.out.map ?_ ?_) | go_in)
    · intro hdone
      obtain ⟨X, hX⟩ := asH E1 (fun e he => by obtain ⟨A, c, h, _⟩ := hq.out.vals e he; exact ⟨A, _, c, h⟩)
      subst hX
      obtain ⟨A8, c8, hu8, _⟩ := hq.out.own.form
      rw [List.length_map] at hu8
      subst hu8
      have hXn : X.length ≤ 1000 := by have := hq.out.len; have := HN.out; rw [List.length_map] at *; omega
      have hso := sortAll_any hq.out.own (by omega)
      have HSo := Lib.hid (And.intro hso hXn)
      clear hso hXn
      go_wp2_with (go_at_call 19; refine HSo.out.1.mono ?_; rintro e w4 ⟨rfl, X', hp, hsrt, hkr, hg4⟩; refine Hid.out ?_)
      have hB4 : Below w2.heap.size w2 w4 := hq.out.below.grown hg4 (by have := hq.out.size; omega) (fun k hk => by have := (hq.out.own.lt k hk).1; omega)
      have hB04 : Below w.heap.size w w4 := (H1.out.2.2.2.trans H2.out.2.2).trans (hB4.mono (by have := H1.out.2.2.2.size; have := H2.out.2.2.size; omega))
      have hT4 := H2.out.2.1.below hB4
      have hst := state_any w4 (HR.out.2.2.2.2.2.2.1.below hB04) hg hk er HR.out.2.2.2.1
      have hre := rest_chg H1.out.1 hT4.tp hg (by have := HR.out.2.2.2.2.1; have := HR.out.2.2.2.2.2.1; omega)
      have H4 := Lib.hid (And.intro hp (And.intro hsrt (And.intro hkr (And.intro hg4 (And.intro hB4 (And.intro hB04 (And.intro hst (And.intro hre hdone))))))))
      clear hp hsrt hkr hg4 hB4 hB04 hT4 hst hre hdone
      refine Lib.hid ?_
      go_wp2_with (first
        | (go_at_call 21; refine H4.out.2.2.2.2.2.2.1.mono ?_; rintro e w' ⟨rfl, rfl⟩)
        | (go_at_call 22; refine H4.out.2.2.2.2.2.2.2.1.mono ?_; rintro e w5 ⟨⟨A9, c9, rfl, h9a, h9b, h9c⟩, hC5⟩; have H5 := Lib.hid (And.intro h9a (And.intro h9b (And.intro h9c hC5))); clear h9a h9b h9c hC5))
      go_ret3
      obtain ⟨hp, hsrt, hkr, hg4, hB4, hB04, _, _, hdone⟩ := H4.out
      obtain ⟨h9a, h9b, h9c, hC5⟩ := H5.out
      have hlt : ∀ k, Rd.S (KB q sb) p bb k → k < w2.heap.size := fun k hk => H2.out.2.1.lt k (.inl hk)
      have hge : ∀ k, Rd.S (KB q sb) p bb k → w.heap.size ≤ k := fun k hk => H2.out.2.1.ge k (.inl hk)
      refine ⟨A8, A9, c8, c9, X', (by show Ending.returned (.tuple #[.slice A8 X.length c8, .int .i64 er.num, .slice A9 R.length c9]) = _; rw [hp.length_eq]), ?_, h9c, h9a, h9b, fun x hx => ?_, ?_, fun k => ?_, by rw [hp.length_eq]; exact HSo.out.2, ?_⟩
      · intro hne
        obtain ⟨g, hA, hx⟩ := hkr hne
        have hgl : w2.heap.size + 1 ≤ g := (hq.out.own.lt g (by rw [hA]; rfl)).1
        have hgw : g < w4.heap.size := Nat.lt_of_lt_of_le (hq.out.own.lt g (by rw [hA]; rfl)).2 hg4.size
        have hb : w5.heap[g]? = w4.heap[g]? := hC5.block g hgw (fun hk => by have := hlt g hk; omega)
        refine ⟨g, hA, fun i e he => ?_⟩
        obtain ⟨d0, d1⟩ := hx i e he
        exact ⟨(World.cell?_of_block (w := w4) (a := ⟨g, i * 2, none⟩) hb).trans d0, (World.cell?_of_block (w := w4) (a := ⟨g, i * 2 + 1, none⟩) hb).trans d1⟩
      · have hm : unH x ∈ X.map unH := List.mem_map_of_mem (hp.mem_iff.1 hx)
        have hv : SVal wr (fun g => w2.heap.size + 1 ≤ g ∧ (Value.slice A8 X.length c8).ownBlock ≠ some g) (unH x).2 (ff x.1) := hq.out.vals _ hm
        obtain ⟨A, c', h1, _, _, h4, h5⟩ := hv.of (w' := w5) (Q := fun _ => True) (fun g hgg hl => (hC5.block g (Nat.lt_of_lt_of_le hl hg4.size) (fun hk => by have := hlt g hk; have := hgg.1; omega)).trans (hg4.block g hl (fun e => hgg.2 e.symm))) (fun _ _ _ => trivial)
        injection h1 with h1 h2 h3
        exact ⟨_, _, _, rfl, h2, h1 ▸ h4⟩
      · have hnd : (X'.map (·.1)).Nodup := by
          have h1 : ((X.map unH).map (·.1)).Nodup := hq.out.nd
          rw [List.map_map] at h1
          have h2 : (X.map (·.1)).Nodup := h1
          exact ((hp.map _).nodup_iff).2 h2
        have h2 : X'.Pairwise (fun x y => x.1 ≠ y.1) := List.pairwise_map.1 hnd
        exact (hsrt.and h2).imp fun {x y} ⟨a, b⟩ => by
          rcases List.le_iff_lt_or_eq.1 (List.not_lt.1 a) with h | h
          · exact h
          · exact absurd h b
      · have h1 : k ∈ X'.map (·.1) ↔ k ∈ (X.map unH).map (·.1) := by
          rw [List.map_map]
          exact (hp.map _).mem_iff
        rw [h1, hq.out.keys k]
        constructor
        · exact fun h => H2.out.1.full k h.1
        · intro h
          refine ⟨fun e => h ?_, hdone k⟩
          have := H2.out.1.each k
          rw [e] at this
          exact this.nil
      · exact hB04.trans (hC5.below (fun k hk h => by have := hge k h; omega) hB04.size)
    · intro k w4 cnt2 hlk hkl hm4 hc4 hg4 hs4 hen
      obtain ⟨A5, c5, hv5, hl5, hc5, hsl5, _⟩ := (H2.out.1.each k).form
      have hsl4 : SL w4 A5 (ff k) := (hsl5.of_block (w' := w4) (fun g o e _ hl => (hg4.block g (by have := hq.out.below.size; omega) (fun e2 => by injection e2 with e2; omega)).trans (hq.out.below.block g hl)))
      have hsm := H2.out.1.small k
      rw [hv5] at hen
      rw [hv5]
      obtain ⟨u2, wb, u3, wd, hr1, hr2, hnew⟩ := hq.out.lay (by have := HN.out; omega) hlk hm4 hc4 hg4 hs4 (c5 := c5) hsl4 (by have := HN.out; omega)
      obtain ⟨A2, c2, hu2, _⟩ := hnew.vals (k, u2) (by simp)
      have hu2' : u2 = .slice A2 (ff k).length c2 := hu2
      subst hu2'
      clear hu2
      have HA := Lib.hid (And.intro hr1 (And.intro hr2 (And.intro hnew hc4)))
      clear hr1 hr2 hnew hv5 hl5 hc5 hsl5 hsl4 hsm hm4 hc4 hg4 hs4 hlk hkl
      go_wp2_with (first
        | ((with_reducible refine at_appendS ?_); refine Lib.wpList_append_run _ rfl _ _ _ _ rfl _ _ rfl rfl _ _ HA.out.1 ?_)
        | ((with_reducible refine at_appendH ?_); refine Lib.wpList_append_run _ rfl _ _ _ _ rfl _ _ rfl rfl _ _ HA.out.2.1 ?_))
      go_roundw
      case rel => exact ⟨_, _, _, Lib.hid HA.out.2.2.1⟩
      case measure => rw [HA.out.2.2.1.map.left_eq, hq.out.map.left_eq]; exact HA.out.2.2.2
end Go.Proofs.YtilhgjcjofobeaaDoor
