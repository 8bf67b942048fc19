/- The walks of (*bytes.Buffer).Write and Bytes. -/
import Derived.Test.YteiiocibldpioaaDoorWrB
import Derived.Laws.CopyRow
import Derived.Deep.RegionHeld3
namespace Go.Proofs.YteiiocibldpioaaDoor
open Go.RowKit

/-- A bytes.Buffer in block b that holds O; its row is none of N. -/
structure Bf (w : World) (base b : Nat) (N : Nat → Prop) (O : List UInt8) : Prop where
  bb : base ≤ b
  nb : ¬ N b
  ex : ∃ lr : Int, (O = [] ∧ Blk w b #[.slice none 0 0, .int .i64 0, .int .i8 lr] 58) ∨
    ∃ (g cap : Nat) (cur : Array Value), Blk w b #[.slice (some ⟨g, 0, none⟩) O.length cap, .int .i64 0, .int .i8 lr] 58 ∧ Blk w g cur 5 ∧ cur.size = cap ∧ O.length ≤ cap ∧ cap ≤ maxLen ∧ cur.toList.take O.length = bts O ∧ g ≠ b ∧ ¬ N g ∧ base ≤ g ∧ 0 < O.length
theorem Bf.lt {w : World} {base b : Nat} {N : Nat → Prop} {O : List UInt8} (h : Bf w base b N O) : b < w.heap.size := by
  obtain ⟨lr, h | ⟨g, cap, cur, h, _⟩⟩ := h.ex
  · exact h.2.lt
  · exact h.lt
/-- Other blocks may join those that are kept, and the world may turn there. -/
theorem Bf.turn {w w' : World} {base b : Nat} {N N' : Nat → Prop} {O : List UInt8} (h : Bf w base b N O) (hN : ∀ k, k < w.heap.size → N' k → N k) (hb : ∀ k, k < w.heap.size → ¬ N k → w'.heap[k]? = w.heap[k]?) : Bf w' base b N' O := by
  refine ⟨h.bb, fun e => h.nb (hN b h.lt e), ?_⟩
  have hk := hb b h.lt h.nb
  obtain ⟨lr, ⟨h1, h2⟩ | ⟨g, cap, cur, h1, h2, h3, h4, h5, h6, h7, h8, h9, h10⟩⟩ := h.ex
  · exact ⟨lr, .inl ⟨h1, h2.same hk⟩⟩
  · exact ⟨lr, .inr ⟨g, cap, cur, h1.same hk, h2.same (hb g h2.lt h8), h3, h4, h5, h6, h7, fun e => h8 (hN g h2.lt e), h9, h10⟩⟩
/-- The frame of a write. -/
def SB (base : Nat) (N : Nat → Prop) (k : Nat) : Prop := base ≤ k ∧ ¬ N k
/-- What Write leaves. -/
def BufEnd (base b : Nat) (N : Nat → Prop) (O P : List UInt8) (w : World) (e : Ending) (w' : World) : Prop :=
  e = .returned (.tuple #[.int .i64 P.length, .nilIface]) ∧ Bf w' base b N (O ++ P) ∧ Chg (SB base N) w w'
theorem Bf.written {w W : World} {base b g cap : Nat} {N : Nat → Prop} {O P : List UInt8} {lr : Int} {cur : Array Value} (hbb : base ≤ b) (hnb : ¬ N b) (hbk : Blk W b #[.slice (some ⟨g, 0, none⟩) (O.length + P.length : Nat) cap, .int .i64 0, .int .i8 lr] 58) (hg : Blk W g cur 5) (hcs : cur.size = cap) (hle : O.length + P.length ≤ cap) (hcm : cap ≤ maxLen)
    (hT : cur.toList.take O.length = bts O) (hgb : g ≠ b) (hgN : ¬ N g) (hgB : base ≤ g) (hP : 0 < P.length) (hC : Chg (SB base N) w W) :
    BufEnd base b N O P w (.returned (.tuple #[.int .i64 P.length, .nilIface])) (W.setRow g (cur.toList.take O.length ++ bts P ++ cur.toList.drop (O.length + (bts P).length)).toArray) := by
  rw [hT, bts_length]
  have hl : (bts O).length = O.length := bts_length O
  have hp : (bts P).length = P.length := bts_length P
  refine ⟨rfl, ⟨hbb, hnb, lr, .inr ⟨g, cap, _, ?_, setRow_heap W g cur _ 5 (0, 0) hg, ?_, by rw [List.length_append]; exact hle, hcm, ?_, hgb, hgN, hgB, by rw [List.length_append]; omega⟩⟩, ?_⟩
  · rw [List.length_append]
    exact hbk.same (setRow_other _ _ _ _ (Ne.symm hgb))
  · simp only [List.size_toArray, List.length_append, List.length_drop, Array.length_toList, hl, hp]
    omega
  · rw [bts_append, List.toList_toArray, List.take_append_of_le_length (by simp only [List.length_append, hl, hp]; exact Nat.le_refl _), List.take_of_length_le (by simp only [List.length_append, hl, hp]; exact Nat.le_refl _)]
  · exact ⟨by rw [setRow_os]; exact hC.os, by rw [setRow_tape]; exact hC.tape, by rw [setRow_output]; exact hC.output, by rw [setRow_size]; exact hC.size, fun k hk hn => (setRow_other _ _ _ _ (fun e => hn (by subst e; exact ⟨hgB, hgN⟩))).trans (hC.block k hk hn)⟩
section
variable {w : World} {base b : Nat} {N : Nat → Prop} {O P : List UInt8}
theorem hsrc_of {W : World} {ga oa : Nat} {P : List UInt8} (hx : ∀ i u, P[i]? = some u → W.cell? ⟨ga, oa + i, none⟩ = some (.int .u8 u.toNat)) : ∀ (j : Nat) (v : Value), (bts P)[j]? = some v → W.cell? ((Addr.mk ga oa none).add j) = some v := by
  intro j v hv
  rw [bts_get] at hv
  rw [addr_add]
  cases hj : P[j]? with
  | none => rw [hj] at hv; cases hv
  | some u =>
    rw [hj] at hv
    injection hv with hv
    subst hv
    exact hx j u hj
set_option maxRecDepth 200000 in
set_option maxHeartbeats 6400000 in
theorem bufWrite_room {g cap ga oa c : Nat} {lr : Int} {cur : Array Value} (hbb : base ≤ b) (hnb : ¬ N b) (hbk : Blk w b #[.slice (some ⟨g, 0, none⟩) O.length cap, .int .i64 0, .int .i8 lr] 58) (hg : Blk w g cur 5) (hcs : cur.size = cap) (hle : O.length + P.length ≤ cap) (hcm : cap ≤ maxLen)
    (hT : cur.toList.take O.length = bts O) (hgb : g ≠ b) (hgN : ¬ N g) (hgB : base ≤ g) (hP : 0 < P.length) (hx : ∀ i u, P[i]? = some u → w.cell? ⟨ga, oa + i, none⟩ = some (.int .u8 u.toNat)) (hga : N ga) :
    Calls Tryd.prog 108 #[.pointer (some ⟨b, 0, none⟩), .slice (some ⟨ga, oa, none⟩) P.length c] w (BufEnd base b N O P w) := by
  have hcm' : cap ≤ 9223372036854775807 := hcm
  have hne : ¬ cap = O.length := by omega
  have hgab : ga ≠ b := fun e => hnb (e ▸ hga)
  have k2 := hbk.set 2 (.int .i8 0)
  have g2 : Blk (w.setCell ⟨b, 2, none⟩ (.int .i8 0)) g cur 5 := hg.setOther 2 _ hgb
  have c2 : w.cell? ⟨b, 2, none⟩ = some (.int .i8 lr) := hbk.cell 2
  have f2 := hbk.free 2
  have c0 : (w.setCell ⟨b, 2, none⟩ (.int .i8 0)).cell? ⟨b, 0, none⟩ = some (.slice (some ⟨g, 0, none⟩) O.length cap) := k2.cell 0
  have f0 := k2.free 0
  have HT := Lib.hid (Tryd.Buffer_tryGrow_room b (some ⟨g, 0, none⟩) O.length cap P.length _ c0 f0 (by omega) hcm (by omega))
  have k3 := k2.set 0 (.slice (some ⟨g, 0, none⟩) (O.length + P.length : Nat) cap)
  have g3 : Blk ((w.setCell ⟨b, 2, none⟩ (.int .i8 0)).setCell ⟨b, 0, none⟩ (.slice (some ⟨g, 0, none⟩) (O.length + P.length : Nat) cap)) g cur 5 := g2.setOther 0 _ hgb
  have hsrc : ∀ i u, P[i]? = some u → ((w.setCell ⟨b, 2, none⟩ (.int .i8 0)).setCell ⟨b, 0, none⟩ (.slice (some ⟨g, 0, none⟩) (O.length + P.length : Nat) cap)).cell? ⟨ga, oa + i, none⟩ = some (.int .u8 u.toNat) := fun i u hu => by
    rw [World.cell?_setCell_other _ _ _ _ (fun e => by injection e with e _; exact hgab e.symm), World.cell?_setCell_other _ _ _ _ (fun e => by injection e with e _; exact hgab e.symm)]
    exact hx i u hu
  have hsz : (Tryd.prog.info? 5).map (·.size) = some 1 := by kernel_rfl
  have hcp := run_copy_row (P := Tryd.prog) _ 24 24 3 5 g O.length P.length (cap - O.length) ⟨ga, oa, none⟩ P.length c cur 5 (bts P) Tryd.underlying24 hsz g3 (by rw [bts_length]; exact (Nat.min_self _).symm) (hsrc_of hsrc) (by rw [bts_length]; omega) (bts_one P)
  have d0 : ((w.setCell ⟨b, 2, none⟩ (.int .i8 0)).setCell ⟨b, 0, none⟩ (.slice (some ⟨g, 0, none⟩) (O.length + P.length : Nat) cap)).cell? ⟨b, 0, none⟩ = some (.slice (some ⟨g, 0, none⟩) (O.length + P.length : Nat) cap) := k3.cell 0
  have hend : BufEnd base b N O P w (.returned (.tuple #[.int .i64 P.length, .nilIface])) _ := Bf.written (w := w) hbb hnb k3 g3 hcs hle hcm hT hgb hgN hgB hP (((Chg.refl _ w).setCell (p := ⟨b, 2, none⟩) (fun _ => ⟨hbb, hnb⟩) _).setCell (p := ⟨b, 0, none⟩) (fun _ => ⟨hbb, hnb⟩) _)
  rw [bts_length] at hcp hend
  rw [List.append_assoc] at hend
  have HE := Lib.hid hend
  generalize ((w.setCell ⟨b, 2, none⟩ (.int .i8 0)).setCell ⟨b, 0, none⟩ (.slice (some ⟨g, 0, none⟩) (O.length + P.length : Nat) cap)) = W1 at *
  clear k2 g2 c0 f0 k3 g3 hsrc hend hbk hg hx hT hsz
  go_enter Tryd.func108, Tryd.ntmps108
  go_wp2_with (go_at_call 110; refine HT.out.mono ?_; rintro e w' ⟨rfl, rfl⟩)
  go_ret2
  exact HE.out
set_option maxRecDepth 200000 in
set_option maxHeartbeats 6400000 in
theorem bufWrite_grow {v : Value} {lr : Int} {ga oa c : Nat} (hbb : base ≤ b) (hbw : base ≤ w.heap.size) (hnb : ¬ N b) (hNw : ∀ k, N k → k < w.heap.size) (hbk : Blk w b #[v, .int .i64 0, .int .i8 lr] 58)
    (hTN : Calls Tryd.prog 110 #[.pointer (some ⟨b, 0, none⟩), .int .i64 P.length] (w.setCell ⟨b, 2, none⟩ (.int .i8 0)) fun e w' => e = .returned (.tuple #[.int .i64 0, .bool false]) ∧ w' = w.setCell ⟨b, 2, none⟩ (.int .i8 0))
    (hGR : Calls Tryd.prog 111 #[.pointer (some ⟨b, 0, none⟩), .int .i64 P.length] (w.setCell ⟨b, 2, none⟩ (.int .i8 0)) (GrowEnd (w.setCell ⟨b, 2, none⟩ (.int .i8 0)) b O.length P.length 0 (bts O)))
    (hP : 0 < P.length) (hx : ∀ i u, P[i]? = some u → w.cell? ⟨ga, oa + i, none⟩ = some (.int .u8 u.toNat)) (hga : N ga) :
    Calls Tryd.prog 108 #[.pointer (some ⟨b, 0, none⟩), .slice (some ⟨ga, oa, none⟩) P.length c] w (BufEnd base b N O P w) := by
  have hgab : ga ≠ b := fun e => hnb (e ▸ hga)
  have c2 : w.cell? ⟨b, 2, none⟩ = some (.int .i8 lr) := hbk.cell 2
  have f2 := hbk.free 2
  have hsz : (Tryd.prog.info? 5).map (·.size) = some 1 := by kernel_rfl
  have hsw : (w.setCell ⟨b, 2, none⟩ (.int .i8 0)).heap.size = w.heap.size := World.size_setCell _ _ _
  have hC0 : Chg (SB base N) w (w.setCell ⟨b, 2, none⟩ (.int .i8 0)) := (Chg.refl _ w).setCell (p := ⟨b, 2, none⟩) (fun _ => ⟨hbb, hnb⟩) _
  have hsrc : ∀ i u, P[i]? = some u → (w.setCell ⟨b, 2, none⟩ (.int .i8 0)).cell? ⟨ga, oa + i, none⟩ = some (.int .u8 u.toNat) := fun i u hu => by
    rw [World.cell?_setCell_other _ _ _ _ (fun e => by injection e with e _; exact hgab e.symm)]
    exact hx i u hu
  have HX := Lib.hid (And.intro hTN (And.intro hGR (And.intro hC0 (And.intro hsrc hsz))))
  clear hTN hGR hC0 hbk hx hsrc hsz
  generalize hw0 : w.setCell ⟨b, 2, none⟩ (.int .i8 0) = w0 at *
  have HW0 := Lib.hid hw0
  go_enter Tryd.func108, Tryd.ntmps108
  go_wp2_with (first
    | (go_at_call 110; refine HX.out.1.mono ?_; rintro e w' ⟨rfl, rfl⟩)
    | (go_at_call 111; refine HX.out.2.1.mono ?_; rintro e W1 ⟨rfl, g, cap, cur, hbk, hg, hcs, hle, hcm, hT, hgw, hC⟩; have H1 := Lib.hid (And.intro hbk (And.intro hg (And.intro hcs (And.intro hle (And.intro hcm (And.intro hT (And.intro hgw hC))))))); clear hbk hg hcs hle hcm hT hgw hC; refine Hid.out ?_))
  refine Lib.hid ?_
  clear hw0
  obtain ⟨hbk, hg, hcs, hle, hcm, hT, hgw, hC⟩ := H1.out
  have hcm' : cap ≤ 9223372036854775807 := hcm
  have hne : ¬ cap = O.length := by omega
  have hgaw : ga < w'.heap.size := by have := hNw ga hga; omega
  have hsrc : ∀ i u, P[i]? = some u → W1.cell? ⟨ga, oa + i, none⟩ = some (.int .u8 u.toNat) := fun i u hu => (World.cell?_of_block (w := w') (a := ⟨ga, oa + i, none⟩) (hC.block ga hgaw hgab)).trans (HX.out.2.2.2.1 i u hu)
  have hcp := run_copy_row (P := Tryd.prog) _ 24 24 3 5 g O.length P.length (cap - O.length) ⟨ga, oa, none⟩ P.length c cur 5 (bts P) Tryd.underlying24 HX.out.2.2.2.2 hg (by rw [bts_length]; exact (Nat.min_self _).symm) (hsrc_of hsrc) (by rw [bts_length]; omega) (bts_one P)
  have d0 : W1.cell? ⟨b, 0, none⟩ = some (.slice (some ⟨g, 0, none⟩) (O.length + P.length : Nat) cap) := hbk.cell 0
  have hgN : ¬ N g := fun e => by have := hNw g e; omega
  have hgb : g ≠ b := by
    have : b < w.heap.size := by
      have h1 := World.block_lt_of_cell? _ _ c2
      exact h1
    omega
  have hend : BufEnd base b N O P w (.returned (.tuple #[.int .i64 P.length, .nilIface])) _ := Bf.written (w := w) hbb hnb hbk hg hcs hle hcm hT hgb hgN (by omega) hP (HX.out.2.2.1.trans (hC.sub (fun k _ e => by subst e; exact ⟨hbb, hnb⟩)))
  rw [bts_length] at hcp hend
  rw [List.append_assoc] at hend
  have HE := Lib.hid hend
  clear hbk hg hsrc hend hT hC c2 f2
  go_wp2
  go_ret2
  exact HE.out
end
theorem bufWrite_any {w : World} {base b n c : Nat} {N : Nat → Prop} {O P : List UInt8} {A : Option Addr} (h : Bf w base b N O) (hbw : base ≤ w.heap.size) (hNw : ∀ k, N k → k < w.heap.size) (hr : RB w A P) (hn : n = P.length) (hA : ∀ g o, A = some ⟨g, o, none⟩ → N g) (hP : 0 < P.length) (hlim : O.length + P.length ≤ 140737488355328) :
    Calls Tryd.prog 108 #[.pointer (some ⟨b, 0, none⟩), .slice A n c] w (BufEnd base b N O P w) := by
  subst hn
  obtain ⟨ga, oa, rfl, hx⟩ := hr (by rintro rfl; simp at hP)
  have hga := hA ga oa rfl
  obtain ⟨lr, ⟨rfl, hbk⟩ | ⟨g, cap, cur, hbk, hg, hcs, hle, hcm, hT, hgb, hgN, hgB, hO⟩⟩ := h.ex
  · have k2 := hbk.set 2 (.int .i8 0)
    have c0 : (w.setCell ⟨b, 2, none⟩ (.int .i8 0)).cell? ⟨b, 0, none⟩ = some (.slice none 0 0) := k2.cell 0
    refine bufWrite_grow h.bb hbw h.nb hNw hbk (Tryd.Buffer_tryGrow_none b none 0 0 P.length _ c0 (Nat.le_refl _) (Nat.zero_le _) (by omega)) ?_ hP hx hga
    by_cases h64 : P.length ≤ 64
    · exact grow_small k2 hP h64
    · exact grow_big k2 (by omega) (by simpa using hlim)
  · by_cases hroom : P.length ≤ cap - O.length
    · exact bufWrite_room h.bb h.nb hbk hg hcs (by omega) hcm hT hgb hgN hgB hP hx hga
    · have k2 := hbk.set 2 (.int .i8 0)
      have c0 : (w.setCell ⟨b, 2, none⟩ (.int .i8 0)).cell? ⟨b, 0, none⟩ = some (.slice (some ⟨g, 0, none⟩) O.length cap) := k2.cell 0
      exact bufWrite_grow h.bb hbw h.nb hNw hbk (Tryd.Buffer_tryGrow_none b _ O.length cap P.length _ c0 hle hcm (by omega)) (grow_row k2 (hg.setOther 2 _ hgb) hcs hle hcm hT (bts_one O) hO hP (by omega) hlim hgb) hP hx hga
/-- Bytes: all that it holds. -/
theorem bufBytes_any {w : World} {base b : Nat} {N : Nat → Prop} {O : List UInt8} (h : Bf w base b N O) :
    Calls Tryd.prog 43 #[.pointer (some ⟨b, 0, none⟩)] w fun e w' => (∃ A c, e = .returned (.slice A O.length c) ∧ O.length ≤ c ∧ c ≤ 9223372036854775807 ∧ RB w' A O) ∧ Only w w' := by
  obtain ⟨lr, ⟨rfl, hbk⟩ | ⟨g, cap, cur, hbk, hg, hcs, hle, hcm, hT, hgb, hgN, hgB, hO⟩⟩ := h.ex
  · have c0 : w.cell? ⟨b, 0, none⟩ = some (.slice none 0 0) := hbk.cell 0
    have c1 : w.cell? ⟨b, 1, none⟩ = some (.int .i64 0) := hbk.cell 1
    clear hbk h
    go_enter Tryd.func43, Tryd.ntmps43
    go_wp2
    go_region_held3 (fun wx => wx.cell? ⟨b, 0, none⟩ = some (.slice none 0 0) ∧ wx.cell? ⟨b, 1, none⟩ = some (.int .i64 0)) (first | go_keep) (fail)
    go_wp2
    go_ret
    exact ⟨⟨none, 0, rfl, Nat.le_refl _, by decide, RB.nil _ _⟩, (Only.refl _).drew⟩
  · have c0 : w.cell? ⟨b, 0, none⟩ = some (.slice (some ⟨g, 0, none⟩) O.length cap) := hbk.cell 0
    have c1 : w.cell? ⟨b, 1, none⟩ = some (.int .i64 0) := hbk.cell 1
    have hcm' : cap ≤ 9223372036854775807 := hcm
    have hrb : RB w (some ⟨g, 0, none⟩) O := by
      intro _
      refine ⟨g, 0, rfl, fun i u hu => ?_⟩
      have h1 : (cur.toList.take O.length)[i]? = (bts O)[i]? := by rw [hT]
      have hi : i < O.length := by
        rcases Nat.lt_or_ge i O.length with h' | h'
        · exact h'
        · rw [List.getElem?_eq_none h'] at hu; cases hu
      rw [List.getElem?_take, if_pos hi, bts_get, hu] at h1
      rw [Nat.zero_add, hg.cell i]
      simpa using h1
    have HE := Lib.hid hrb
    clear hbk h hg hT hcm hrb
    have hli : (O.length : Int) ≤ (cap : Int) := by omega
    go_enter Tryd.func43, Tryd.ntmps43
    go_wp2
    go_region_held3 (fun wx => wx.cell? ⟨b, 0, none⟩ = some (.slice (some ⟨g, 0, none⟩) O.length cap) ∧ wx.cell? ⟨b, 1, none⟩ = some (.int .i64 0)) (first | go_keep) (fail)
    go_wp2
    go_ret
    exact ⟨⟨some ⟨g, 0, none⟩, cap, rfl, hle, hcm', HE.out⟩, (Only.refl _).drew⟩
end Go.Proofs.YteiiocibldpioaaDoor
