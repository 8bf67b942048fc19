/- The walks of the reference's Lines and Tail. -/
import Derived.Test.YteiiocibldpioaaDoorOwn
import Derived.Test.YteiiocibldpioaaDoorLnLaw
namespace Go.Proofs.YteiiocibldpioaaDoor
open Go.RowKit

theorem specTail_any {w : World} {A : Option Addr} {n c : Nat} {S : List UInt8} (hn : n = S.length) (hr : RB w A S) (hS : S.length ≤ 16777216) :
    Calls Tryd.prog 27 #[.slice A n c] w fun e w' => e = .returned (.int .i64 (tailAcc 0 S)) ∧ w = w' := by
  subst hn
  by_cases hne : S = []
  · subst hne
    clear hr
    go_enter Tryd.func27, Tryd.ntmps27
    go_wp2
    go_loop [3, 8] (fun u i => i = .int .i64 0 ∧ u = .int .i64 0) (fun _ _ => 0)
    case atStart => exact ⟨rfl, rfl⟩
    case round =>
      obtain ⟨rfl, rfl⟩ := hrel
      go_wp2
      go_ret
      exact ⟨rfl, rfl⟩
  · obtain ⟨g, o, rfl, hx⟩ := hr hne
    have HX := Lib.hid hx
    clear hx hr
    go_enter Tryd.func27, Tryd.ntmps27
    go_wp2
    go_loop [3, 5, 8] (fun u _ i => ∃ k m : Nat, k ≤ S.length ∧ m ≤ k ∧ i = .int .i64 k ∧ u = .int .i64 m ∧ Hid (tailAcc m (S.drop k) = tailAcc 0 S)) (fun _ _ i => S.length - (intOf i).toNat)
    case atStart => exact ⟨0, 0, Nat.zero_le _, Nat.le_refl _, rfl, rfl, Lib.hid rfl⟩
    case round =>
      obtain ⟨k, m, hk, hm, rfl, rfl, ht⟩ := hrel
      by_cases hlt : k < S.length
      · have hcell : w.cell? ⟨g, o + k, none⟩ = some (.int .u8 S[k].toNat) := HX.out k S[k] (List.getElem?_eq_getElem hlt)
        have hd : S.drop k = S[k] :: S.drop (k + 1) := List.drop_eq_getElem_cons hlt
        by_cases h10 : S[k] = 10
        · have e10 : ((S[k].toNat : Int) == 10) = true := by rw [h10]; rfl
          have hnx : tailAcc 0 (S.drop (k + 1)) = tailAcc 0 S := by
            rw [← ht.out, hd, tailAcc_cons, if_pos h10]
          have HN := Lib.hid hnx
          clear hnx hd h10
          go_wp2
          go_round
          case rel => exact ⟨k + 1, 0, by omega, by omega, by go_num, rfl, HN⟩
          case measure => simp [intOf]; omega
        · have e10 : ((S[k].toNat : Int) == 10) = false := by
            rw [beq_eq_false_iff_ne]; exact fun e => h10 ((byte_eq_iff S[k] 10).1 e)
          have hnx : tailAcc (m + 1) (S.drop (k + 1)) = tailAcc 0 S := by
            rw [← ht.out, hd, tailAcc_cons, if_neg h10]
          have HN := Lib.hid hnx
          clear hnx hd h10
          go_wp2
          go_round
          case rel => exact ⟨k + 1, m + 1, by omega, by omega, by go_num, by go_num, HN⟩
          case measure => simp [intOf]; omega
      · have hd : S.drop k = [] := List.drop_eq_nil_of_le (by omega)
        have hm2 : m = tailAcc 0 S := by have := ht.out; rw [hd] at this; exact this
        have HM := Lib.hid hm2
        clear hd hm2
        go_wp2
        go_ret
        exact ⟨ret_int (by rw [HM.out]), rfl⟩
/-- What the reference's Lines leaves. -/
def SLinesEnd (S : List UInt8) (w : World) (e : Ending) (w' : World) : Prop :=
  ∃ (A : Option Addr) (c : Nat), e = .returned (.slice A (linesAcc [] S).length c) ∧ SL w' A (linesAcc [] S) ∧ Below w.heap.size w w'
theorem linesAcc_le (S : List UInt8) : ∀ acc, (linesAcc acc S).length ≤ S.length + 1 := by
  induction S with
  | nil => intro acc; unfold linesAcc; split <;> simp
  | cons c t ih =>
    intro acc
    rw [linesAcc_cons]
    split
    · have := ih []; simp; omega
    · have := ih (acc ++ [c]); simp; omega
set_option maxRecDepth 200000 in
set_option maxHeartbeats 1000000 in
theorem specLines_any {w : World} {A : Option Addr} {n c : Nat} {S : List UInt8} (hn : n = S.length) (hc : S.length ≤ c) (_hc2 : c ≤ 9223372036854775807) (hr : RB w A S) (hS : S.length ≤ 16777216) :
    Calls Tryd.prog 20 #[.slice A n c] w (SLinesEnd S w) := by
  subst hn
  by_cases hne : S = []
  · subst hne
    clear hr
    go_enter Tryd.func20, Tryd.ntmps20
    go_wp2
    go_loop [3, 4, 10] (fun u v i => i = .int .i64 0 ∧ v = .int .i64 0 ∧ u = .slice none 0 0) (fun _ _ _ => 0)
    case atStart => exact ⟨rfl, rfl, rfl⟩
    case round =>
      obtain ⟨rfl, rfl, rfl⟩ := hrel
      go_wp2
      go_ret
      exact ⟨none, 0, rfl, SL.nil _ _, Below.refl _ _⟩
  · obtain ⟨g, o, rfl, hx⟩ := hr hne
    have HX := Lib.hid (And.intro hx hr)
    clear hx hr
    go_enter Tryd.func20, Tryd.ntmps20
    go_wp2
    go_loopg [3, 4, 5, 6, 7, 10] S.length (fun gk u3 u4 _ _ _ u10 wr => ∃ (acc : List (List UInt8)) (k at_ : Nat), OS wr w.heap.size u3 acc ∧ k + gk = S.length ∧ at_ ≤ k ∧ u10 = .int .i64 k ∧ u4 = .int .i64 at_ ∧ acc.length ≤ k ∧ Hid (linesAcc [] S = acc ++ linesAcc ((S.take k).drop at_) (S.drop k)) ∧ Below w.heap.size w wr)
    case atStart => exact ⟨[], 0, 0, OS.nil _ _, by omega, Nat.le_refl _, rfl, rfl, by simp, Lib.hid (by simp), Below.refl _ _⟩
    case round =>
      obtain ⟨acc, k, at_, hown, hk, hat, rfl, rfl, hal, hl, hb⟩ := hrel
      obtain ⟨A0, c0, hu0, _, _, _⟩ := hown.form
      subst hu0
      have hrb : RB wr (some ⟨g, o, none⟩) S := HX.out.2.below hb
      have HK := Lib.hid (And.intro hown (And.intro hb hrb))
      by_cases hlt : k < S.length
      · have hcell : wr.cell? ⟨g, o + k, none⟩ = some (.int .u8 S[k].toNat) := hrb.at_ k S[k] (List.getElem?_eq_getElem hlt)
        have hd : S.drop k = S[k] :: S.drop (k + 1) := List.drop_eq_getElem_cons hlt
        have htk : S.take (k + 1) = S.take k ++ [S[k]] := List.take_succ_eq_append_getElem hlt
        by_cases h10 : S[k] = 10
        · obtain ⟨a, ha⟩ : ∃ a, a = (S.take k).drop at_ := ⟨_, rfl⟩
          have hal2 : a.length = k - at_ := by rw [ha, List.length_drop, List.length_take]; omega
          have e10 : ((S[k].toNat : Int) != 10) = false := by rw [h10]; rfl
          have hnx : linesAcc [] S = (acc ++ [dropCR a]) ++ linesAcc ((S.take (k + 1)).drop (k + 1)) (S.drop (k + 1)) := by
            have h0 : (S.take (k + 1)).drop (k + 1) = [] := List.drop_eq_nil_of_le (by rw [List.length_take]; omega)
            rw [h0, hl.out, hd, linesAcc_cons, if_pos h10, ← ha, List.append_assoc]
            rfl
          have hrba : RB wr (some ⟨g, o + at_, none⟩) a := by
            have h1 := hrb.drop at_
            have h2 : S.drop at_ = a ++ S.drop k := by
              rw [ha]
              conv => lhs; rw [← List.take_append_drop k S]
              rw [List.drop_append_of_le_length (by rw [List.length_take]; omega)]
            rw [h2] at h1
            exact h1.left
          have HA := Lib.hid (And.intro ha (And.intro hal2 (And.intro hnx hrba)))
          clear hd htk ha hal2 hnx hrba h10 hown hb
          have hca : ¬ c = at_ := by omega
          have hfin : ∀ (w3 : World) (A3 : Option Addr) (c3 : Nat) (wm : World), Below w.heap.size wr wm → w.heap.size ≤ wm.heap.size → OS wm w.heap.size (.slice A0 acc.length c0) acc → AppendedS wm w3 w.heap.size (.slice A0 acc.length c0) A3 (acc.length + 1) c3 (acc ++ [dropCR a]) →
              ∃ (acc' : List (List UInt8)) (k' at' : Nat), OS w3 w.heap.size (.slice A3 (acc.length + 1) c3) acc' ∧ k' + (gk - 1) = S.length ∧ at' ≤ k' ∧ Value.int .i64 ((k : Int) + 1) = .int .i64 k' ∧ Value.int .i64 ((k : Int) + 1) = .int .i64 at' ∧ acc'.length ≤ k' ∧ Hid (linesAcc [] S = acc' ++ linesAcc ((S.take k').drop at') (S.drop k')) ∧ Below w.heap.size w w3 := fun w3 A3 c3 wm hb1 hs1 hown1 hap =>
            ⟨acc ++ [dropCR a], k + 1, k + 1, hap.own, by omega, Nat.le_refl _, by go_num, by go_num, by simp; omega, Lib.hid HA.out.2.2.1, (HK.out.2.1.trans hb1).trans (hap.below hown1 hs1)⟩
          have HF := Lib.hid hfin
          have hsz : w.heap.size ≤ wr.heap.size := HK.out.2.1.size
          have hal3 : (acc.length + 1) * 16 ≤ 140737488355328 := by omega
          clear hfin
          by_cases hg0 : at_ < k
          · rcases List.eq_nil_or_concat a with h0 | ⟨t, b, h0⟩
            · exfalso; have := HA.out.2.1; rw [h0] at this; simp at this; omega
            · rw [List.concat_eq_append] at h0
              subst h0
              have htl : t.length + 1 = k - at_ := by have := HA.out.2.1; simpa using this
              have hcb : wr.cell? ⟨g, o + (k - 1), none⟩ = some (.int .u8 b.toNat) := by
                have h1 := HA.out.2.2.2.at_ t.length b (by simp)
                rw [show o + at_ + t.length = o + (k - 1) by omega] at h1
                exact h1
              have hrbt : RB wr (some ⟨g, o + at_, none⟩) t := HA.out.2.2.2.left
              have HT := Lib.hid (And.intro htl hrbt)
              clear hrbt htl
              by_cases h13 : b = 13
              · subst h13
                have hc13 : wr.cell? ⟨g, o + (k - 1), none⟩ = some (.int .u8 13) := hcb
                rw [dropCR_cr] at HF
                clear hcb
                go_wp2_with (first
                  | ((with_reducible refine at_toString ?_); refine wpList_toString rfl (.tmp 35) rfl (some ⟨g, o + at_, none⟩) (k - 1 - at_) (c - at_) t rfl (by have := HT.out.1; omega) HT.out.2 ?_)
                  | ((with_reducible refine at_appendS ?_); refine wpList_append_S rfl (.tmp 31) (.tmp 37) 28 Tryd.underlying28 rfl w.heap.size (.slice A0 acc.length c0) acc rfl (HK.out.1.alloc _) (some ⟨wr.heap.size, 0, none⟩) [t] 1 1 rfl rfl (SL.one' _ _ _ _ rfl) hal3 (by simp; omega) (acc.length + 1) rfl (acc ++ [t]) rfl ?_; intro A3 c3 w3 hap; have HP := Lib.hid hap; clear hap))
                go_roundg (gk - 1)
                case measure => omega
                case rel => exact HF.out w3 A3 c3 _ ((Below.refl _ _).alloc hsz _) (by simp; omega) (HK.out.1.alloc _) HP.out
              · have hcb13 : ((b.toNat : Int) == 13) = false := by
                  rw [beq_eq_false_iff_ne]; exact fun e => h13 ((byte_eq_iff b 13).1 e)
                rw [dropCR_other h13] at HF
                go_wp2_with (first
                  | ((with_reducible refine at_toString ?_); refine wpList_toString rfl (.tmp 35) rfl (some ⟨g, o + at_, none⟩) (k - at_) (c - at_) (t ++ [b]) rfl (by have := HT.out.1; simp; omega) HA.out.2.2.2 ?_)
                  | ((with_reducible refine at_appendS ?_); refine wpList_append_S rfl (.tmp 31) (.tmp 37) 28 Tryd.underlying28 rfl w.heap.size (.slice A0 acc.length c0) acc rfl (HK.out.1.alloc _) (some ⟨wr.heap.size, 0, none⟩) [t ++ [b]] 1 1 rfl rfl (SL.one' _ _ _ _ rfl) hal3 (by simp; omega) (acc.length + 1) rfl (acc ++ [t ++ [b]]) rfl ?_; intro A3 c3 w3 hap; have HP := Lib.hid hap; clear hap))
                go_roundg (gk - 1)
                case measure => omega
                case rel => exact HF.out w3 A3 c3 _ ((Below.refl _ _).alloc hsz _) (by simp; omega) (HK.out.1.alloc _) HP.out
          · have hak : a = [] := List.length_eq_zero_iff.1 (by have := HA.out.2.1; omega)
            subst hak
            have hkk : at_ = k := by omega
            subst hkk
            rw [dropCR_nil] at HF
            go_wp2_with (first
              | ((with_reducible refine at_toString ?_); refine wpList_toString rfl (.tmp 35) rfl (some ⟨g, o + at_, none⟩) 0 (c - at_) [] rfl rfl (RB.nil _ _) ?_)
              | ((with_reducible refine at_appendS ?_); refine wpList_append_S rfl (.tmp 31) (.tmp 37) 28 Tryd.underlying28 rfl w.heap.size (.slice A0 acc.length c0) acc rfl (HK.out.1.alloc _) (some ⟨wr.heap.size, 0, none⟩) [[]] 1 1 rfl rfl (SL.one' _ _ _ _ rfl) hal3 (by simp; omega) (acc.length + 1) rfl (acc ++ [[]]) rfl ?_; intro A3 c3 w3 hap; have HP := Lib.hid hap; clear hap))
            go_roundg (gk - 1)
            case measure => omega
            case rel => exact HF.out w3 A3 c3 _ ((Below.refl _ _).alloc hsz _) (by simp; omega) (HK.out.1.alloc _) HP.out
        · have e10 : ((S[k].toNat : Int) != 10) = true := by
            rw [bne_iff_ne]; exact fun e => h10 ((byte_eq_iff S[k] 10).1 e)
          have hnx : linesAcc [] S = acc ++ linesAcc ((S.take (k + 1)).drop at_) (S.drop (k + 1)) := by
            rw [hl.out, hd, linesAcc_cons, if_neg h10, htk, List.drop_append_of_le_length (by rw [List.length_take]; omega)]
          have HN := Lib.hid hnx
          clear hnx hd htk h10 hown hb hrb
          go_wp2
          go_roundg (gk - 1)
          case measure => omega
          case rel => exact ⟨acc, k + 1, at_, HK.out.1, by omega, by omega, by go_num, rfl, by omega, HN, HK.out.2.1⟩
      · have hd : S.drop k = [] := List.drop_eq_nil_of_le (by omega)
        have hte : S.take k = S := List.take_of_length_le (by omega)
        have hk2 : k = S.length := by omega
        have hfin := hl.out
        rw [hd, hte] at hfin
        have HF := Lib.hid hfin
        have hsz : w.heap.size ≤ wr.heap.size := HK.out.2.1.size
        clear hd hte hfin hown hb
        subst hk2
        by_cases hat2 : at_ < S.length
        · have hca : ¬ c = at_ := by omega
          have hal3 : (acc.length + 1) * 16 ≤ 140737488355328 := by omega
          have hrbd := hrb.drop at_
          have hdl : (S.drop at_).length = S.length - at_ := List.length_drop ..
          have hdn : S.drop at_ ≠ [] := by rw [← List.length_pos_iff]; omega
          have HD := Lib.hid (And.intro hrbd (And.intro hdl hdn))
          clear hrbd hdl hdn hrb
          generalize S.drop at_ = m at HD HF
          go_wp2_with (first
            | ((with_reducible refine at_toString ?_); refine wpList_toString rfl (.tmp 49) rfl (some ⟨g, o + at_, none⟩) (S.length - at_) (c - at_) m rfl HD.out.2.1.symm HD.out.1 ?_)
            | ((with_reducible refine at_appendS ?_); refine wpList_append_S rfl (.tmp 46) (.tmp 51) 28 Tryd.underlying28 rfl w.heap.size (.slice A0 acc.length c0) acc rfl (HK.out.1.alloc _) (some ⟨wr.heap.size, 0, none⟩) [m] 1 1 rfl rfl (SL.one' _ _ _ _ rfl) hal3 (by simp; omega) (acc.length + 1) rfl (acc ++ [m]) rfl ?_; intro A3 c3 w3 hap; have HP := Lib.hid hap; clear hap))
          go_ret
          have hap := HP.out
          have hf := HF.out
          have hls : linesAcc m [] = [m] := by unfold linesAcc; rw [if_neg HD.out.2.2]
          rw [hls] at hf
          have hlen : (linesAcc [] S).length = acc.length + 1 := by rw [hf]; simp
          refine ⟨A3, c3, ?_, ?_, (HK.out.2.1.trans ((Below.refl _ _).alloc hsz _)).trans (hap.below (HK.out.1.alloc _) (by simp; omega))⟩
          · rw [hlen]; rfl
          · rw [hf]; exact hap.read
        · have hf := HF.out
          rw [List.drop_eq_nil_of_le (show S.length ≤ at_ by omega)] at hf
          have hls : linesAcc ([] : List UInt8) [] = [] := rfl
          rw [hls, List.append_nil] at hf
          have HF2 := Lib.hid hf
          clear hf
          go_wp2
          go_ret
          obtain ⟨A4, c4, h4, _, _, hsl⟩ := HK.out.1.form
          injection h4 with h4 _ _
          subst h4
          have hf := HF2.out
          refine ⟨A0, c0, ?_, ?_, HK.out.2.1⟩
          · rw [hf]; rfl
          · rw [hf]; exact hsl
end Go.Proofs.YteiiocibldpioaaDoor
