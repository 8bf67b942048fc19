/- The walks of ReadContinuedLine and impl.Continued. -/
import Derived.Test.YteiiocibldpioaaDoorRdL
import Derived.Test.YteiiocibldpioaaDoorContLs
import Derived.Test.YteiiocibldpioaaDoorRdM
import Derived.Test.YteiiocibldpioaaDoorOwn
namespace Go.Proofs.YteiiocibldpioaaDoor
open Go.RowKit

theorem noVal_any (x : Value) (w : World) : Calls Tryd.prog 68 #[x] w fun e w' => e = .returned .nilIface ∧ w = w' := by
  go_enter Tryd.func68, Tryd.ntmps68
  go_wp2
  go_ret
  exact ⟨rfl, rfl⟩
theorem noVal_call (a : Array Value) (w : World) : (callFunc 68 a).run Tryd.prog w = .ok (.enter 68 a) w := by
  simp [callFunc, go_sem, Tryd.func68, Tryd.f68]
/-- What ReadContinuedLine leaves. -/
def TCont (K : Und) (base : Nat) (E : Nat → Addr) (gs : List Nat) (t p bb : Nat) (v : Value) (S : List UInt8) (w : World) (e : Ending) (w' : World) : Prop :=
  ∃ (v' : Value) (line R : List UInt8) (er : Er), e = .returned (.tuple #[.string ⟨line.toArray⟩, er.val E]) ∧ CSays noV S line er R ∧ Tb K base E gs t p bb v' w' R ∧ Chg (SC K t p bb v) w w' ∧ Turned v v' w
set_option maxRecDepth 200000 in
theorem tReadCont_any {K : Und} (hK : FillOK K) {base t p bb : Nat} {E : Nat → Addr} {gs : List Nat} {v : Value} {w : World} {S : List UInt8} (h : Tb K base E gs t p bb v w S) (hg : 1 ∈ gs) (hf : 5 ∈ gs) (hS : S.length ≤ 4398046511104) :
    Calls Tryd.prog 57 #[.pointer (some ⟨t, 0, none⟩)] w (TCont K base E gs t p bb v S w) := by
  have hrl := readContinued_any hK h hg hf hS 68 noVal_call noV (fun _ => .inl rfl) (fun A c l w _ _ _ _ => (noVal_any _ w).mono fun e w' ⟨h1, h2⟩ => ⟨h1, h2 ▸ Only.refl _⟩) (-1) (.inl rfl)
  have H := Lib.hid hrl
  clear hrl h
  go_enter Tryd.func57, Tryd.ntmps57
  go_wp2_with (first
    | (go_at_call 67; refine H.out.mono ?_; rintro e w1 ⟨v', line, R, er, A, c, rfl, hsay, hlc, hc, hrb, hT1, hC1, hv, _⟩)
    | (with_reducible refine at_toString ?_; refine wpList_toString rfl _ rfl A line.length c line rfl rfl hrb ?_))
  go_ret2
  exact ⟨v', line, R, er, rfl, hsay, hT1, hC1, hv⟩
theorem CLoop.er {S acc l R : List UInt8} {er : Er} (h : CLoop S acc l er R) : er = .nil ∨ er = .sent 1 := by
  induction h with
  | stop _ => exact .inl rfl
  | cut _ h2 _ => exact h2.er
  | go _ _ _ ih => exact ih
theorem CSays.er {S l R : List UInt8} {er : Er} (h : CSays noV S l er R) : er = .nil ∨ er = .sent 1 := by
  cases h with
  | err h1 _ => exact h1.er
  | blank _ => exact .inl rfl
  | bad _ _ h3 => exact absurd rfl h3
  | line _ _ _ h4 => exact h4.er
theorem dropWhile_le (S : List UInt8) : (S.dropWhile blank).length ≤ S.length := (List.dropWhile_sublist _).length_le
theorem CLoop.le {S acc l R : List UInt8} {er : Er} (h : CLoop S acc l er R) : R.length ≤ S.length := by
  induction h with
  | stop _ => exact Nat.le_refl _
  | cut _ h2 _ => have := h2.le; exact Nat.le_trans (by omega) (dropWhile_le _)
  | go _ h2 _ ih => have := h2.le; exact Nat.le_trans ih (Nat.le_trans (by omega) (dropWhile_le _))
theorem CSays.lt' {vE : List UInt8 → Er} {S l R : List UInt8} {er : Er} (h : CSays vE S l er R) (he : er = .nil) : R.length < S.length := by
  cases h with
  | err _ h2 => exact absurd he h2
  | blank h1 => exact (h1.lt rfl).1
  | bad _ _ h3 => exact absurd he h3
  | line h1 _ _ h4 => exact Nat.lt_of_le_of_lt h4.le (h1.lt rfl).1
theorem CSays.lt {vE : List UInt8 → Er} {S l R : List UInt8} (h : CSays vE S l .nil R) : R.length < S.length := h.lt' rfl
/-- What impl.Continued leaves. -/
def ContOut (S : List UInt8) (w : World) (e : Ending) (w' : World) : Prop :=
  ∃ (ls : List (List UInt8)) (A : Option Addr) (c : Nat), e = .returned (.tuple #[.slice A ls.length c, .int .i64 1]) ∧ ContSays S ls (.sent 1) ∧ SL w' A ls ∧ ls.length ≤ S.length ∧ Below w.heap.size w w'
theorem Tb.ge {K : Und} {base t p bb : Nat} {E : Nat → Addr} {gs : List Nat} {v : Value} {w : World} {S : List UInt8} (h : Tb K base E gs t p bb v w S) : ∀ k, SC K t p bb v k → base ≤ k := by
  intro k hk
  have hl := h.tp.lay
  rcases hk with (rfl | rfl | hk) | rfl | hk
  · exact hl.bp
  · exact hl.bb_
  · exact hl.bo k hk
  · exact h.tp.1
  · obtain ⟨acc, ho⟩ := h.own
    exact (ho.lt k hk).1
theorem Tb.lt {K : Und} {base t p bb : Nat} {E : Nat → Addr} {gs : List Nat} {v : Value} {w : World} {S : List UInt8} (h : Tb K base E gs t p bb v w S) : ∀ k, SC K t p bb v k → k < w.heap.size := by
  intro k hk
  rcases hk with hk | rfl | hk
  · exact Rs.S_lt h.tp.2.2.2 k hk
  · exact h.tp.2.2.1.lt
  · obtain ⟨acc, ho⟩ := h.own
    exact (ho.lt k hk).2
theorem Tb.frame {K : Und} {base t p bb : Nat} {E : Nat → Addr} {gs : List Nat} {v : Value} {w w' : World} {S : List UInt8} (h : Tb K base E gs t p bb v w S) (hc : Chg (SC K t p bb v) w w') : Below base w w' :=
  hc.below (fun k hk e => by have := h.ge k e; omega) h.tp.size
/-- Other blocks are turned. -/
theorem Tb.other {K : Und} {base t p bb : Nat} {E : Nat → Addr} {gs : List Nat} {v : Value} {w w' : World} {S : List UInt8} (h : Tb K base E gs t p bb v w S) (hB : Below base w w') (hb : ∀ k, SC K t p bb v k → w'.heap[k]? = w.heap[k]?) : Tb K base E gs t p bb v w' S := by
  obtain ⟨acc, ho⟩ := h.own
  exact ⟨⟨h.tp.1, h.tp.2.1, h.tp.2.2.1.same (hb t (.inr (.inl rfl))), Rs.blocks h.tp.2.2.2 (fun k hk => hb k (.inl hk)) hB⟩, ⟨acc, ho.of_blocks (fun k hk _ => hb k (.inr (.inr hk)))⟩, h.out⟩
/-- The loop's relation. -/
def CRel (K : Und) (base : Nat) (E : Nat → Addr) (gs : List Nat) (t p bb : Nat) (S : List UInt8) (w : World) (k : Nat) (u : Value) (wr : World) : Prop :=
  ∃ (acc : List (List UInt8)) (S1 : List UInt8) (v : Value), OS wr base u acc ∧ Tb K base E gs t p bb v wr S1 ∧ (∀ j, u.ownBlock = some j → ¬ SC K t p bb v j) ∧ S1.length + 1 ≤ k ∧ (∀ ls er, ContSays S1 ls er → ContSays S (acc ++ ls) er) ∧ acc.length + S1.length ≤ S.length ∧ Below w.heap.size w wr
set_option maxRecDepth 200000 in
set_option maxHeartbeats 1600000 in
theorem implContinued_any {w : World} {E : Nat → Addr} {gs : List Nat} (hs : Sens w E gs) (hg : 1 ∈ gs) (hk : 2 ∈ gs) (hf : 5 ∈ gs) {A : Option Addr} {n c : Nat} {S : List UInt8} (hn : n = S.length) (hr : RB w A S) (hS : S.length ≤ 4398046511104) :
    Calls Tryd.prog 36 #[.slice A n c] w (ContOut S w) := by
  have hmk := reader_any (c := c) hs hn hr (by omega)
  have H := Lib.hid hmk
  clear hmk hr hs hn
  go_enter Tryd.func36, Tryd.ntmps36
  go_wp2_with (go_at_call 45; refine H.out.mono ?_; rintro e w1 ⟨q, sb, t, p, bb, rfl, hqs, hT1, hb1⟩; have H1 := Lib.hid (And.intro hqs (And.intro hT1 hb1)); clear hqs hT1 hb1)
  go_loopg [4, 6, 7] (S.length + 1) (fun k u4 _ _ wr => CRel (KB q sb) w.heap.size E gs t p bb S w k u4 wr)
  case atStart =>
    obtain ⟨hqs, hT1, hb1⟩ := H1.out
    exact ⟨[], S, _, OS.nil _ _, ⟨hT1, ⟨[], OB.nil _ _⟩, (fun k e => by cases e)⟩, (fun j e => by cases e), Nat.le_refl _, fun ls er h => h, by simp, hb1⟩
  case round =>
    obtain ⟨acc, S1, v, hown, hT, hap, hgk, hcont, hsz, hb⟩ := hrel
    obtain ⟨A0, c0, hu0, _, _, _⟩ := hown.form
    subst hu0
    have hrl := tReadCont_any (fillB q sb H1.out.1) hT hg hf (by omega)
    have HD := Lib.hid hrl
    have HK := Lib.hid (And.intro hown (And.intro hT (And.intro hap (And.intro hgk (And.intro hcont (And.intro hsz hb))))))
    clear hrl hown hT hap hgk hcont hsz hb
    go_wp2_with (go_at_call 57; refine HD.out.mono ?_; rintro e w2 ⟨v', l, S2, er, rfl, hsay, hT2, hC2, hv⟩; have H2 := Lib.hid (And.intro hsay (And.intro hT2 (And.intro hC2 hv))); clear hT2 hC2 hv; rcases hsay.er with rfl | rfl <;> clear hsay <;> refine Hid.out ?_)
    · refine Lib.hid ?_
      simp only [Er.val]
      obtain ⟨hown, hT, hap, hgk, hcont, hsz, hb⟩ := HK.out
      obtain ⟨hsay, hT2, hC2, hv⟩ := H2.out
      have hlt := hsay.lt
      have hown2 : OS w2 w.heap.size (.slice A0 acc.length c0) acc := hown.of_blocks (fun k hk hkl => hC2.block k hkl (hap k hk))
      have hM2 : w.heap.size ≤ w2.heap.size := Nat.le_trans hb.size hC2.size
      have hal : (acc.length + 1) * 16 ≤ 140737488355328 := by omega
      have HA := Lib.hid (And.intro hown2 (And.intro hM2 (And.intro hlt hal)))
      clear hown hT hap hgk hcont hsz hb hsay hT2 hC2 hlt hown2 hM2 hal hv
      go_wp2_with ((with_reducible refine at_appendS ?_); refine wpList_append_S rfl (.tmp 20) (.tmp 22) 28 Tryd.underlying28 rfl w.heap.size (.slice A0 acc.length c0) acc rfl (HA.out.1.alloc _) (some ⟨w2.heap.size, 0, none⟩) [l] 1 1 rfl rfl (SL.one' _ _ _ _ rfl) HA.out.2.2.2 (by simp; have := HA.out.2.1; omega) (acc.length + 1) rfl (acc ++ [l]) rfl ?_; intro A3 c3 w3 hap; have HP := Lib.hid hap; clear hap)
      obtain ⟨hown, hT, hap, hgk, hcont, hsz, hb⟩ := HK.out
      obtain ⟨hsay, hT2, hC2, hv⟩ := H2.out
      have hpp := HP.out
      have hlt := HA.out.2.2.1
      have hb3 : Below w.heap.size w2 w3 := ((Below.refl _ _).alloc HA.out.2.1 _).trans (hpp.below (HA.out.1.alloc _) (by simp; have := HA.out.2.1; omega))
      have hno : ∀ j, (Value.slice A0 acc.length c0).ownBlock = some j → ¬ SC (KB q sb) t p bb v' j := fun j hj hS => by
        rcases hS with hS | hS | hS
        · exact hap j hj (.inl hS)
        · exact hap j hj (.inr (.inl hS))
        · rcases hv with hv | ⟨k, hv, hk⟩
          · rw [hv] at hS; exact hap j hj (.inr (.inr hS))
          · rw [hv] at hS
            injection hS with hS
            have := (hown.lt j hj).2
            omega
      have hsame : ∀ k, SC (KB q sb) t p bb v' k → w3.heap[k]? = w2.heap[k]? := fun k hk => by
        have hkl := hT2.lt k hk
        refine (hpp.grown.block k (by rw [World.size_alloc]; omega) (fun e => hno k e.symm hk)).trans ?_
        exact Below.heap_alloc _ _ _ hkl
      go_roundg (S2.length + 1)
      case measure => omega
      case rel =>
        refine ⟨acc ++ [l], S2, v', hpp.own, hT2.other hb3 hsame, fun j hj hS => ?_, Nat.le_refl _, fun ls er h => ?_, ?_, (hb.trans (hT.frame hC2)).trans hb3⟩
        · rcases hpp.at_ with h | h
          · rw [h] at hj; exact hno j hj hS
          · rw [h] at hj
            injection hj with hj
            have := hT2.lt j hS
            simp at hj
            omega
        · have := hcont _ _ (.go hsay h)
          rw [List.append_assoc]
          exact this
        · simp; omega
    · refine Lib.hid ?_
      have hst := fun (w : World) (h : Sens w E gs) => state_any w h hg hk (.sent 1) hg
      have HS := Lib.hid hst
      clear hst
      simp only [Er.val]
      go_wp2_with (go_at_call 47; refine (HS.out _ H2.out.2.1.tp.sens.s).mono ?_; rintro e w3 ⟨rfl, rfl⟩)
      go_ret2
      obtain ⟨hown, hT, hap, hgk, hcont, hsz, hb⟩ := HK.out
      obtain ⟨hsay, hT2, hC2, hv⟩ := H2.out
      have hown2 : OS w2 w.heap.size (.slice A0 acc.length c0) acc := hown.of_blocks (fun k hk hkl => hC2.block k hkl (hap k hk))
      obtain ⟨A4, c4, h4, _, _, hsl⟩ := hown2.form
      injection h4 with h4 _ _
      subst h4
      refine ⟨acc, A0, c0, rfl, ?_, hsl, by omega, hb.trans (hT.frame hC2)⟩
      have := hcont _ _ (.stop hsay (fun e => by cases e))
      rwa [List.append_nil] at this
end Go.Proofs.YteiiocibldpioaaDoor
