/- The writer, whole, for FnDotRound: WrB, WrC, WrD, WrE, WrF, WrG, WrH, SpecQ and WrN in one text (made by merge.py). -/
import Derived.Test.YteiiocibldpioaaDoorShelfB
import Derived.Test.YteiiocibldpioaaDoorZr
import Derived.Lib.BufferMore
import Derived.Deep.RegionWith
import Derived.Laws.CopyRow
import Derived.Deep.RegionHeld3
import Derived.Test.YteiiocibldpioaaDoorRdA
import Derived.Deep.LoopGhost
import Derived.Test.YteiiocibldpioaaDoorWdots
import Derived.Test.YteiiocibldpioaaDoorRdM
import Derived.LaidEqlPtr
import Derived.Test.YteiiocibldpioaaDoorOpenR
import Derived.Test.YteiiocibldpioaaDoorWdLaw
import Derived.Test.YteiiocibldpioaaDoorAhead
import Derived.Lib.AppendZeros
import Derived.Test.YteiiocibldpioaaDoorSpecL
import Derived.Test.YteiiocibldpioaaDoorDotB
namespace Go.Proofs.YteiiocibldpioaaDoor
open Go.RowKit

/-- What grow leaves. -/
def GrowEnd (w : World) (b l n : Nat) (lr : Int) (T : List Value) (e : Ending) (w' : World) : Prop :=
  e = .returned (.int .i64 l) ∧ ∃ (g cap : Nat) (cs : Array Value), Blk w' b #[.slice (some ⟨g, 0, none⟩) (l + n : Nat) cap, .int .i64 0, .int .i8 lr] 58 ∧ Blk w' g cs 5 ∧ cs.size = cap ∧ l + n ≤ cap ∧ cap ≤ maxLen ∧ cs.toList.take l = T ∧ w.heap.size ≤ g ∧ Chg (fun k => k = b) w w'
theorem Tryd.nilEq (W : World) : (binOp .eql 24 (.slice none 0 0) (.slice none 0 0)).run Tryd.prog W = .ok (.bool true) W := Lib.run_eql_slice_nil_nil W _ _ Tryd.underlying24
theorem Tryd.someEq (a : Addr) (n c : Nat) (W : World) : (binOp .eql 24 (.slice (some a) n c) (.slice none 0 0)).run Tryd.prog W = .ok (.bool false) W := Lib.run_eql_slice_some_nil W a n c Tryd.underlying24
theorem Chg.ofDrawn (S : Nat → Prop) (w : World) (k : Nat) : Chg S w (w.drewN k) := (Chg.refl S w).drewN k
set_option maxRecDepth 200000 in
set_option maxHeartbeats 6400000 in
theorem grow_small {w : World} {b n : Nat} {lr : Int} (h : Blk w b #[.slice none 0 0, .int .i64 0, .int .i8 lr] 58) (hn : 1 ≤ n) (h64 : n ≤ 64) :
    Calls Tryd.prog 111 #[.pointer (some ⟨b, 0, none⟩), .int .i64 n] w (GrowEnd w b 0 n lr []) := by
  obtain ⟨i0, hi, hz0, hz1, hz2⟩ := info_parts Tryd.infoU
  have hmk : ∀ W : World, (Instr.makeSlice 24 (.int .i64 (n : Int)) (.int .i64 64)).run Tryd.prog W = .ok (.slice (some ⟨W.heap.size, 0, none⟩) n 64) (W.alloc (.cells (madeCells (Value.int .u8 0).cells 64) 5)) := fun W => by
    have h := run_makeSlice (P := Tryd.prog) W 24 5 i0 (.int .u8 0) Tryd.underlying24 hi hz0 .i64 .i64 (n : Int) 64 (by omega) (by omega) (by rw [hz1]; decide) (by rw [hz2]; decide) (by decide)
    rw [hz1] at h
    simpa using h
  clear hi hz0 hz1 hz2
  have hIs : Lib.IsBuffer 58 5 0 b [] w := ⟨Nat.zero_le _, _, _, h, World.ownsRow_nil _ _ _ _, by simp [Value.ownBlock]⟩
  have hnil := Tryd.nilEq
  have HL := Lib.hid (Tryd.Buffer_Len 0 b [] w hIs)
  have H := Lib.hid h
  clear hIs h
  go_enter Tryd.func111, Tryd.ntmps111
  go_wp2_with (go_at_call 112; refine HL.out.mono ?_; rintro e W0 ⟨rfl, k, hW0⟩; have HW0 := Lib.hid hW0; clear hW0; refine Hid.out ?_)
  refine Lib.hid ?_
  have hbk0 : Blk W0 b #[.slice none 0 0, .int .i64 0, .int .i8 lr] 58 := by rw [HW0.out]; exact H.out
  have c0 : W0.cell? ⟨b, 0, none⟩ = some (.slice none 0 0) := hbk0.cell 0
  have c1 : W0.cell? ⟨b, 1, none⟩ = some (.int .i64 0) := hbk0.cell 1
  have f0 := hbk0.free 0
  have hbW0 := hbk0.lt
  have c0a : ∀ o, (W0.alloc o).cell? ⟨b, 0, none⟩ = some (.slice none 0 0) := fun o => (World.cell?_of_block (a := ⟨b, 0, none⟩) (Below.heap_alloc W0 o b hbW0)).trans c0
  have f0a : ∀ o, (W0.alloc o).frozen? ⟨b, 0, none⟩ = false := fun o => (World.frozen?_of_block (a := ⟨b, 0, none⟩) (Below.heap_alloc W0 o b hbW0)).trans f0
  have HT := Lib.hid (Tryd.Buffer_tryGrow_none b none 0 0 n W0 c0 (Nat.le_refl _) (Nat.zero_le _) (by omega))
  have HB := Lib.hid hbk0
  clear hbk0 hbW0
  go_wp2_with (go_at_call 110; refine HT.out.mono ?_; rintro e w' ⟨rfl, rfl⟩)
  go_ret
  have hB := HB.out
  have hC : Chg (fun k => k = b) w w' := by rw [HW0.out]; exact Chg.ofDrawn _ w k
  have hbl := hB.lt
  refine ⟨rfl, w'.heap.size, 64, madeCells (Value.int .u8 0).cells 64, ?_, ?_, size_madeCells _ _, by omega, by decide, rfl, hC.size, (hC.alloc _).setCell (p := ⟨b, 0, none⟩) (fun _ => rfl) _⟩
  · have := (hB.same (Below.heap_alloc w' (.cells (madeCells (Value.int .u8 0).cells 64) 5) b hbl)).set 0 (.slice (some ⟨w'.heap.size, 0, none⟩) n 64)
    rw [Nat.zero_add]
    exact this
  · exact (Blk.new w' _ _).setOther 0 _ (by omega)
set_option maxRecDepth 200000 in
set_option maxHeartbeats 12800000 in
theorem grow_big {w : World} {b n : Nat} {lr : Int} (h : Blk w b #[.slice none 0 0, .int .i64 0, .int .i8 lr] 58) (h64 : 64 < n) (hlim : n ≤ 140737488355328) :
    Calls Tryd.prog 111 #[.pointer (some ⟨b, 0, none⟩), .int .i64 n] w (GrowEnd w b 0 n lr []) := by
  have hIs : Lib.IsBuffer 58 5 0 b [] w := ⟨Nat.zero_le _, _, _, h, World.ownsRow_nil _ _ _ _, by simp [Value.ownBlock]⟩
  have hnil := Tryd.nilEq
  have HL := Lib.hid (Tryd.Buffer_Len 0 b [] w hIs)
  have H := Lib.hid h
  clear hIs h
  go_enter Tryd.func111, Tryd.ntmps111
  go_wp2_with (go_at_call 112; refine HL.out.mono ?_; rintro e W0 ⟨rfl, k, hW0⟩; have HW0 := Lib.hid hW0; clear hW0; refine Hid.out ?_)
  refine Lib.hid ?_
  have hbk0 : Blk W0 b #[.slice none 0 0, .int .i64 0, .int .i8 lr] 58 := by rw [HW0.out]; exact H.out
  have c0 : W0.cell? ⟨b, 0, none⟩ = some (.slice none 0 0) := hbk0.cell 0
  have c1 : W0.cell? ⟨b, 1, none⟩ = some (.int .i64 0) := hbk0.cell 1
  have f0 := hbk0.free 0
  have f1 := hbk0.free 1
  have HT := Lib.hid (Tryd.Buffer_tryGrow_none b none 0 0 n W0 c0 (Nat.le_refl _) (Nat.zero_le _) (by omega))
  have HG := Lib.hid (fun W => Tryd.bytes_growSlice_nil n W (by omega) hlim)
  have HB := Lib.hid hbk0
  clear hbk0
  have hni : ¬ (n : Int) ≤ 64 := by omega
  have hwn : IntKind.i64.wrap (n : Int) = n := by rw [IntKind.wrap_i64]; omega
  go_wp2_with (go_at_call 110; refine HT.out.mono ?_; rintro e w' ⟨rfl, rfl⟩)
  go_region_with (first | (go_at_call 113; refine (HG.out _).mono ?_; rintro e w2 ⟨cap2, cells, rfl, hN, hcsz, hcap2, hcm2, hbel⟩; have hbk2 : Blk w2 b #[.slice none 0 0, .int .i64 0, .int .i8 lr] 58 := HB.out.same (hbel.block b HB.out.lt); have d0 : w2.cell? ⟨b, 0, none⟩ = some (.slice none 0 0) := hbk2.cell 0; have d1 : w2.cell? ⟨b, 1, none⟩ = some (.int .i64 0) := hbk2.cell 1; have e0 := hbk2.free 0; have e1 := hbk2.free 1; have H2 := Lib.hid (And.intro hN (And.intro hcsz (And.intro hbk2 hbel))); clear hN hcsz hbk2 hbel))
  all_goals
    have hcm3 : cap2 ≤ 9223372036854775807 := hcm2
    go_wp2
    go_ret
    obtain ⟨hN, hcsz, hbk2, hbel⟩ := H2.out
    have hC : Chg (fun k => k = b) w w2 := by
      have h1 : Chg (fun k => k = b) w w'.drew := by rw [HW0.out]; exact (Chg.ofDrawn _ w k).drew
      exact h1.of_below hbel (fun j hj _ => Nat.lt_of_lt_of_le hj h1.size)
    have hgb : w'.heap.size ≠ b := by have := HB.out.lt; omega
    refine ⟨rfl, w'.heap.size, cap2, cells, ?_, ((Blk.setOther (g := w'.heap.size) hN 0 _ hgb).setOther 1 _ hgb).setOther 0 _ hgb, hcsz, by omega, hcm2, rfl, by rw [HW0.out]; exact Nat.le_refl _, ((hC.setCell (p := ⟨b, 0, none⟩) (fun _ => rfl) _).setCell (p := ⟨b, 1, none⟩) (fun _ => rfl) _).setCell (p := ⟨b, 0, none⟩) (fun _ => rfl) _⟩
    rw [Nat.zero_add]
    exact ((hbk2.set 0 _).set 1 _).set 0 _
set_option maxRecDepth 200000 in
set_option maxHeartbeats 12800000 in
theorem grow_row {w : World} {b g l cap n : Nat} {lr : Int} {cur : Array Value} {T : List Value} (h : Blk w b #[.slice (some ⟨g, 0, none⟩) l cap, .int .i64 0, .int .i8 lr] 58) (hg : Blk w g cur 5) (hcs : cur.size = cap) (hlc : l ≤ cap) (hcm : cap ≤ maxLen)
    (hT : cur.toList.take l = T) (h1 : ∀ v ∈ T, v.oneCell' = true) (hl : 0 < l) (hn : 1 ≤ n) (hroom : cap - l < n) (hlim : l + n ≤ 140737488355328) (hgb : g ≠ b) :
    Calls Tryd.prog 111 #[.pointer (some ⟨b, 0, none⟩), .int .i64 n] w (GrowEnd w b l n lr T) := by
  have hlT : T.length = l := by rw [← hT, List.length_take, Array.length_toList, hcs]; omega
  have hIs : Lib.IsBuffer 58 5 0 b T w := ⟨Nat.zero_le _, _, _, h, ⟨by rw [hlT, Nat.mul_one], .inr ⟨g, cap, cur, by rw [hlT], Nat.zero_le _, hg, by omega, hcm, by omega, by rw [hlT, Nat.mul_one]; exact hT⟩⟩, by simp [Value.ownBlock]; exact hgb⟩
  have hsome := Tryd.someEq ⟨g, 0, none⟩ l cap
  have hlen := Tryd.Buffer_Len 0 b T w hIs
  rw [hlT] at hlen
  have HL := Lib.hid hlen
  have H := Lib.hid (And.intro h (And.intro hg (And.intro hcs (And.intro hT hlT))))
  clear hIs h hlen hg hlT
  have hcm' : cap ≤ 9223372036854775807 := hcm
  have hc2 : cap ≤ 140737488355328 := by omega
  go_enter Tryd.func111, Tryd.ntmps111
  go_wp2_with (go_at_call 112; refine HL.out.mono ?_; rintro e W0 ⟨rfl, k, hW0⟩; have HW0 := Lib.hid hW0; clear hW0; refine Hid.out ?_)
  refine Lib.hid ?_
  have hbk0 : Blk W0 b #[.slice (some ⟨g, 0, none⟩) l cap, .int .i64 0, .int .i8 lr] 58 := by rw [HW0.out]; exact H.out.1
  have hg0 : Blk W0 g cur 5 := by rw [HW0.out]; exact H.out.2.1
  have c0 : W0.cell? ⟨b, 0, none⟩ = some (.slice (some ⟨g, 0, none⟩) l cap) := hbk0.cell 0
  have c1 : W0.cell? ⟨b, 1, none⟩ = some (.int .i64 0) := hbk0.cell 1
  have f0 := hbk0.free 0
  have f1 := hbk0.free 1
  have HT := Lib.hid (Tryd.Buffer_tryGrow_none b (some ⟨g, 0, none⟩) l cap n W0 c0 hlc hcm hroom)
  have HG := Lib.hid (fun (W : World) (hW : Blk W g cur 5) => Tryd.bytes_growSlice_row g l cap n cur W hW hcs hlc hn hlim hc2 (by rw [hT]; exact h1))
  have HB := Lib.hid (And.intro hbk0 hg0)
  clear hbk0 hg0 hcs hT h1
  have hwn : IntKind.i64.wrap (n : Int) = n := by rw [IntKind.wrap_i64]; omega
  go_wp2_with (go_at_call 110; refine HT.out.mono ?_; rintro e w' ⟨rfl, rfl⟩)
  go_region_with (first | (go_at_call 113; refine (HG.out w'.drew HB.out.2).mono ?_; rintro e w2 ⟨cap2, cells, rfl, hN, hcsz, htk, hcap2, hcm2, hbel⟩; have hbk2 : Blk w2 b #[.slice (some ⟨g, 0, none⟩) l cap, .int .i64 0, .int .i8 lr] 58 := HB.out.1.same (hbel.block b HB.out.1.lt); have d0 : w2.cell? ⟨b, 0, none⟩ = some (.slice (some ⟨g, 0, none⟩) l cap) := hbk2.cell 0; have d1 : w2.cell? ⟨b, 1, none⟩ = some (.int .i64 0) := hbk2.cell 1; have e0 := hbk2.free 0; have e1 := hbk2.free 1; have H2 := Lib.hid (And.intro hN (And.intro hcsz (And.intro htk (And.intro hbk2 hbel)))); clear hN hcsz htk hbk2 hbel))
  all_goals
    have hcm3 : cap2 ≤ 9223372036854775807 := hcm2
    go_wp2
    go_ret
    obtain ⟨hN, hcsz, htk, hbk2, hbel⟩ := H2.out
    have hC : Chg (fun k => k = b) w w2 := by
      have h1 : Chg (fun k => k = b) w w'.drew := by rw [HW0.out]; exact (Chg.ofDrawn _ w k).drew
      exact h1.of_below hbel (fun j hj _ => Nat.lt_of_lt_of_le hj h1.size)
    have hgb : w'.heap.size ≠ b := by have := HB.out.1.lt; omega
    exact ⟨rfl, w'.heap.size, cap2, cells, ((hbk2.set 0 _).set 1 _).set 0 _, ((Blk.setOther (g := w'.heap.size) hN 0 _ hgb).setOther 1 _ hgb).setOther 0 _ hgb, hcsz, hcap2, hcm2, htk.trans H.out.2.2.2.1, by rw [HW0.out]; exact Nat.le_refl _, ((hC.setCell (p := ⟨b, 0, none⟩) (fun _ => rfl) _).setCell (p := ⟨b, 1, none⟩) (fun _ => rfl) _).setCell (p := ⟨b, 0, none⟩) (fun _ => rfl) _⟩
/-- A bytes.Buffer in block b that holds O; its row is none of N. -/
structure Bf (w : World) (base b : Nat) (N : Nat → Prop) (O : List UInt8) : Prop where
  bb : base ≤ b
  nb : ¬ N b
  ex : ∃ lr : Int, (O = [] ∧ Blk w b #[.slice none 0 0, .int .i64 0, .int .i8 lr] 58) ∨
    ∃ (g cap : Nat) (cur : Array Value), Blk w b #[.slice (some ⟨g, 0, none⟩) O.length cap, .int .i64 0, .int .i8 lr] 58 ∧ Blk w g cur 5 ∧ cur.size = cap ∧ O.length ≤ cap ∧ cap ≤ maxLen ∧ cur.toList.take O.length = bts O ∧ g ≠ b ∧ ¬ N g ∧ base ≤ g ∧ 0 < O.length
theorem Bf.lt {w : World} {base b : Nat} {N : Nat → Prop} {O : List UInt8} (h : Bf w base b N O) : b < w.heap.size := by
  obtain ⟨lr, h | ⟨g, cap, cur, h, _⟩⟩ := h.ex
  · exact h.2.lt
  · exact h.lt
/-- Other blocks may join those that are kept, and the world may turn there. -/
theorem Bf.turn {w w' : World} {base b : Nat} {N N' : Nat → Prop} {O : List UInt8} (h : Bf w base b N O) (hN : ∀ k, k < w.heap.size → N' k → N k) (hb : ∀ k, k < w.heap.size → ¬ N k → w'.heap[k]? = w.heap[k]?) : Bf w' base b N' O := by
  refine ⟨h.bb, fun e => h.nb (hN b h.lt e), ?_⟩
  have hk := hb b h.lt h.nb
  obtain ⟨lr, ⟨h1, h2⟩ | ⟨g, cap, cur, h1, h2, h3, h4, h5, h6, h7, h8, h9, h10⟩⟩ := h.ex
  · exact ⟨lr, .inl ⟨h1, h2.same hk⟩⟩
  · exact ⟨lr, .inr ⟨g, cap, cur, h1.same hk, h2.same (hb g h2.lt h8), h3, h4, h5, h6, h7, fun e => h8 (hN g h2.lt e), h9, h10⟩⟩
/-- The frame of a write. -/
def SB (base : Nat) (N : Nat → Prop) (k : Nat) : Prop := base ≤ k ∧ ¬ N k
/-- What Write leaves. -/
def BufEnd (base b : Nat) (N : Nat → Prop) (O P : List UInt8) (w : World) (e : Ending) (w' : World) : Prop :=
  e = .returned (.tuple #[.int .i64 P.length, .nilIface]) ∧ Bf w' base b N (O ++ P) ∧ Chg (SB base N) w w'
theorem Bf.written {w W : World} {base b g cap : Nat} {N : Nat → Prop} {O P : List UInt8} {lr : Int} {cur : Array Value} (hbb : base ≤ b) (hnb : ¬ N b) (hbk : Blk W b #[.slice (some ⟨g, 0, none⟩) (O.length + P.length : Nat) cap, .int .i64 0, .int .i8 lr] 58) (hg : Blk W g cur 5) (hcs : cur.size = cap) (hle : O.length + P.length ≤ cap) (hcm : cap ≤ maxLen)
    (hT : cur.toList.take O.length = bts O) (hgb : g ≠ b) (hgN : ¬ N g) (hgB : base ≤ g) (hP : 0 < P.length) (hC : Chg (SB base N) w W) :
    BufEnd base b N O P w (.returned (.tuple #[.int .i64 P.length, .nilIface])) (W.setRow g (cur.toList.take O.length ++ bts P ++ cur.toList.drop (O.length + (bts P).length)).toArray) := by
  rw [hT, bts_length]
  have hl : (bts O).length = O.length := bts_length O
  have hp : (bts P).length = P.length := bts_length P
  refine ⟨rfl, ⟨hbb, hnb, lr, .inr ⟨g, cap, _, ?_, setRow_heap W g cur _ 5 (0, 0) hg, ?_, by rw [List.length_append]; exact hle, hcm, ?_, hgb, hgN, hgB, by rw [List.length_append]; omega⟩⟩, ?_⟩
  · rw [List.length_append]
    exact hbk.same (setRow_other _ _ _ _ (Ne.symm hgb))
  · simp only [List.size_toArray, List.length_append, List.length_drop, Array.length_toList, hl, hp]
    omega
  · rw [bts_append, List.toList_toArray, List.take_append_of_le_length (by simp only [List.length_append, hl, hp]; exact Nat.le_refl _), List.take_of_length_le (by simp only [List.length_append, hl, hp]; exact Nat.le_refl _)]
  · exact ⟨by rw [setRow_os]; exact hC.os, by rw [setRow_tape]; exact hC.tape, by rw [setRow_output]; exact hC.output, by rw [setRow_size]; exact hC.size, fun k hk hn => (setRow_other _ _ _ _ (fun e => hn (by subst e; exact ⟨hgB, hgN⟩))).trans (hC.block k hk hn)⟩
section
variable {w : World} {base b : Nat} {N : Nat → Prop} {O P : List UInt8}
theorem hsrc_of {W : World} {ga oa : Nat} {P : List UInt8} (hx : ∀ i u, P[i]? = some u → W.cell? ⟨ga, oa + i, none⟩ = some (.int .u8 u.toNat)) : ∀ (j : Nat) (v : Value), (bts P)[j]? = some v → W.cell? ((Addr.mk ga oa none).add j) = some v := by
  intro j v hv
  rw [bts_get] at hv
  rw [addr_add]
  cases hj : P[j]? with
  | none => rw [hj] at hv; cases hv
  | some u =>
    rw [hj] at hv
    injection hv with hv
    subst hv
    exact hx j u hj
set_option maxRecDepth 200000 in
set_option maxHeartbeats 6400000 in
theorem bufWrite_room {g cap ga oa c : Nat} {lr : Int} {cur : Array Value} (hbb : base ≤ b) (hnb : ¬ N b) (hbk : Blk w b #[.slice (some ⟨g, 0, none⟩) O.length cap, .int .i64 0, .int .i8 lr] 58) (hg : Blk w g cur 5) (hcs : cur.size = cap) (hle : O.length + P.length ≤ cap) (hcm : cap ≤ maxLen)
    (hT : cur.toList.take O.length = bts O) (hgb : g ≠ b) (hgN : ¬ N g) (hgB : base ≤ g) (hP : 0 < P.length) (hx : ∀ i u, P[i]? = some u → w.cell? ⟨ga, oa + i, none⟩ = some (.int .u8 u.toNat)) (hga : N ga) :
    Calls Tryd.prog 108 #[.pointer (some ⟨b, 0, none⟩), .slice (some ⟨ga, oa, none⟩) P.length c] w (BufEnd base b N O P w) := by
  have hcm' : cap ≤ 9223372036854775807 := hcm
  have hne : ¬ cap = O.length := by omega
  have hgab : ga ≠ b := fun e => hnb (e ▸ hga)
  have k2 := hbk.set 2 (.int .i8 0)
  have g2 : Blk (w.setCell ⟨b, 2, none⟩ (.int .i8 0)) g cur 5 := hg.setOther 2 _ hgb
  have c2 : w.cell? ⟨b, 2, none⟩ = some (.int .i8 lr) := hbk.cell 2
  have f2 := hbk.free 2
  have c0 : (w.setCell ⟨b, 2, none⟩ (.int .i8 0)).cell? ⟨b, 0, none⟩ = some (.slice (some ⟨g, 0, none⟩) O.length cap) := k2.cell 0
  have f0 := k2.free 0
  have HT := Lib.hid (Tryd.Buffer_tryGrow_room b (some ⟨g, 0, none⟩) O.length cap P.length _ c0 f0 (by omega) hcm (by omega))
  have k3 := k2.set 0 (.slice (some ⟨g, 0, none⟩) (O.length + P.length : Nat) cap)
  have g3 : Blk ((w.setCell ⟨b, 2, none⟩ (.int .i8 0)).setCell ⟨b, 0, none⟩ (.slice (some ⟨g, 0, none⟩) (O.length + P.length : Nat) cap)) g cur 5 := g2.setOther 0 _ hgb
  have hsrc : ∀ i u, P[i]? = some u → ((w.setCell ⟨b, 2, none⟩ (.int .i8 0)).setCell ⟨b, 0, none⟩ (.slice (some ⟨g, 0, none⟩) (O.length + P.length : Nat) cap)).cell? ⟨ga, oa + i, none⟩ = some (.int .u8 u.toNat) := fun i u hu => by
    rw [World.cell?_setCell_other _ _ _ _ (fun e => by injection e with e _; exact hgab e.symm), World.cell?_setCell_other _ _ _ _ (fun e => by injection e with e _; exact hgab e.symm)]
    exact hx i u hu
  have hsz : (Tryd.prog.info? 5).map (·.size) = some 1 := by kernel_rfl
  have hcp := run_copy_row (P := Tryd.prog) _ 24 24 3 5 g O.length P.length (cap - O.length) ⟨ga, oa, none⟩ P.length c cur 5 (bts P) Tryd.underlying24 hsz g3 (by rw [bts_length]; exact (Nat.min_self _).symm) (hsrc_of hsrc) (by rw [bts_length]; omega) (bts_one P)
  have d0 : ((w.setCell ⟨b, 2, none⟩ (.int .i8 0)).setCell ⟨b, 0, none⟩ (.slice (some ⟨g, 0, none⟩) (O.length + P.length : Nat) cap)).cell? ⟨b, 0, none⟩ = some (.slice (some ⟨g, 0, none⟩) (O.length + P.length : Nat) cap) := k3.cell 0
  have hend : BufEnd base b N O P w (.returned (.tuple #[.int .i64 P.length, .nilIface])) _ := Bf.written (w := w) hbb hnb k3 g3 hcs hle hcm hT hgb hgN hgB hP (((Chg.refl _ w).setCell (p := ⟨b, 2, none⟩) (fun _ => ⟨hbb, hnb⟩) _).setCell (p := ⟨b, 0, none⟩) (fun _ => ⟨hbb, hnb⟩) _)
  rw [bts_length] at hcp hend
  rw [List.append_assoc] at hend
  have HE := Lib.hid hend
  generalize ((w.setCell ⟨b, 2, none⟩ (.int .i8 0)).setCell ⟨b, 0, none⟩ (.slice (some ⟨g, 0, none⟩) (O.length + P.length : Nat) cap)) = W1 at *
  clear k2 g2 c0 f0 k3 g3 hsrc hend hbk hg hx hT hsz
  go_enter Tryd.func108, Tryd.ntmps108
  go_wp2_with (go_at_call 110; refine HT.out.mono ?_; rintro e w' ⟨rfl, rfl⟩)
  go_ret2
  exact HE.out
set_option maxRecDepth 200000 in
set_option maxHeartbeats 6400000 in
theorem bufWrite_grow {v : Value} {lr : Int} {ga oa c : Nat} (hbb : base ≤ b) (hbw : base ≤ w.heap.size) (hnb : ¬ N b) (hNw : ∀ k, N k → k < w.heap.size) (hbk : Blk w b #[v, .int .i64 0, .int .i8 lr] 58)
    (hTN : Calls Tryd.prog 110 #[.pointer (some ⟨b, 0, none⟩), .int .i64 P.length] (w.setCell ⟨b, 2, none⟩ (.int .i8 0)) fun e w' => e = .returned (.tuple #[.int .i64 0, .bool false]) ∧ w' = w.setCell ⟨b, 2, none⟩ (.int .i8 0))
    (hGR : Calls Tryd.prog 111 #[.pointer (some ⟨b, 0, none⟩), .int .i64 P.length] (w.setCell ⟨b, 2, none⟩ (.int .i8 0)) (GrowEnd (w.setCell ⟨b, 2, none⟩ (.int .i8 0)) b O.length P.length 0 (bts O)))
    (hP : 0 < P.length) (hx : ∀ i u, P[i]? = some u → w.cell? ⟨ga, oa + i, none⟩ = some (.int .u8 u.toNat)) (hga : N ga) :
    Calls Tryd.prog 108 #[.pointer (some ⟨b, 0, none⟩), .slice (some ⟨ga, oa, none⟩) P.length c] w (BufEnd base b N O P w) := by
  have hgab : ga ≠ b := fun e => hnb (e ▸ hga)
  have c2 : w.cell? ⟨b, 2, none⟩ = some (.int .i8 lr) := hbk.cell 2
  have f2 := hbk.free 2
  have hsz : (Tryd.prog.info? 5).map (·.size) = some 1 := by kernel_rfl
  have hsw : (w.setCell ⟨b, 2, none⟩ (.int .i8 0)).heap.size = w.heap.size := World.size_setCell _ _ _
  have hC0 : Chg (SB base N) w (w.setCell ⟨b, 2, none⟩ (.int .i8 0)) := (Chg.refl _ w).setCell (p := ⟨b, 2, none⟩) (fun _ => ⟨hbb, hnb⟩) _
  have hsrc : ∀ i u, P[i]? = some u → (w.setCell ⟨b, 2, none⟩ (.int .i8 0)).cell? ⟨ga, oa + i, none⟩ = some (.int .u8 u.toNat) := fun i u hu => by
    rw [World.cell?_setCell_other _ _ _ _ (fun e => by injection e with e _; exact hgab e.symm)]
    exact hx i u hu
  have HX := Lib.hid (And.intro hTN (And.intro hGR (And.intro hC0 (And.intro hsrc hsz))))
  clear hTN hGR hC0 hbk hx hsrc hsz
  generalize hw0 : w.setCell ⟨b, 2, none⟩ (.int .i8 0) = w0 at *
  have HW0 := Lib.hid hw0
  go_enter Tryd.func108, Tryd.ntmps108
  go_wp2_with (first
    | (go_at_call 110; refine HX.out.1.mono ?_; rintro e w' ⟨rfl, rfl⟩)
    | (go_at_call 111; refine HX.out.2.1.mono ?_; rintro e W1 ⟨rfl, g, cap, cur, hbk, hg, hcs, hle, hcm, hT, hgw, hC⟩; have H1 := Lib.hid (And.intro hbk (And.intro hg (And.intro hcs (And.intro hle (And.intro hcm (And.intro hT (And.intro hgw hC))))))); clear hbk hg hcs hle hcm hT hgw hC; refine Hid.out ?_))
  refine Lib.hid ?_
  clear hw0
  obtain ⟨hbk, hg, hcs, hle, hcm, hT, hgw, hC⟩ := H1.out
  have hcm' : cap ≤ 9223372036854775807 := hcm
  have hne : ¬ cap = O.length := by omega
  have hgaw : ga < w'.heap.size := by have := hNw ga hga; omega
  have hsrc : ∀ i u, P[i]? = some u → W1.cell? ⟨ga, oa + i, none⟩ = some (.int .u8 u.toNat) := fun i u hu => (World.cell?_of_block (w := w') (a := ⟨ga, oa + i, none⟩) (hC.block ga hgaw hgab)).trans (HX.out.2.2.2.1 i u hu)
  have hcp := run_copy_row (P := Tryd.prog) _ 24 24 3 5 g O.length P.length (cap - O.length) ⟨ga, oa, none⟩ P.length c cur 5 (bts P) Tryd.underlying24 HX.out.2.2.2.2 hg (by rw [bts_length]; exact (Nat.min_self _).symm) (hsrc_of hsrc) (by rw [bts_length]; omega) (bts_one P)
  have d0 : W1.cell? ⟨b, 0, none⟩ = some (.slice (some ⟨g, 0, none⟩) (O.length + P.length : Nat) cap) := hbk.cell 0
  have hgN : ¬ N g := fun e => by have := hNw g e; omega
  have hgb : g ≠ b := by
    have : b < w.heap.size := by
      have h1 := World.block_lt_of_cell? _ _ c2
      exact h1
    omega
  have hend : BufEnd base b N O P w (.returned (.tuple #[.int .i64 P.length, .nilIface])) _ := Bf.written (w := w) hbb hnb hbk hg hcs hle hcm hT hgb hgN (by omega) hP (HX.out.2.2.1.trans (hC.sub (fun k _ e => by subst e; exact ⟨hbb, hnb⟩)))
  rw [bts_length] at hcp hend
  rw [List.append_assoc] at hend
  have HE := Lib.hid hend
  clear hbk hg hsrc hend hT hC c2 f2
  go_wp2
  go_ret2
  exact HE.out
end
theorem bufWrite_any {w : World} {base b n c : Nat} {N : Nat → Prop} {O P : List UInt8} {A : Option Addr} (h : Bf w base b N O) (hbw : base ≤ w.heap.size) (hNw : ∀ k, N k → k < w.heap.size) (hr : RB w A P) (hn : n = P.length) (hA : ∀ g o, A = some ⟨g, o, none⟩ → N g) (hP : 0 < P.length) (hlim : O.length + P.length ≤ 140737488355328) :
    Calls Tryd.prog 108 #[.pointer (some ⟨b, 0, none⟩), .slice A n c] w (BufEnd base b N O P w) := by
  subst hn
  obtain ⟨ga, oa, rfl, hx⟩ := hr (by rintro rfl; simp at hP)
  have hga := hA ga oa rfl
  obtain ⟨lr, ⟨rfl, hbk⟩ | ⟨g, cap, cur, hbk, hg, hcs, hle, hcm, hT, hgb, hgN, hgB, hO⟩⟩ := h.ex
  · have k2 := hbk.set 2 (.int .i8 0)
    have c0 : (w.setCell ⟨b, 2, none⟩ (.int .i8 0)).cell? ⟨b, 0, none⟩ = some (.slice none 0 0) := k2.cell 0
    refine bufWrite_grow h.bb hbw h.nb hNw hbk (Tryd.Buffer_tryGrow_none b none 0 0 P.length _ c0 (Nat.le_refl _) (Nat.zero_le _) (by omega)) ?_ hP hx hga
    by_cases h64 : P.length ≤ 64
    · exact grow_small k2 hP h64
    · exact grow_big k2 (by omega) (by simpa using hlim)
  · by_cases hroom : P.length ≤ cap - O.length
    · exact bufWrite_room h.bb h.nb hbk hg hcs (by omega) hcm hT hgb hgN hgB hP hx hga
    · have k2 := hbk.set 2 (.int .i8 0)
      have c0 : (w.setCell ⟨b, 2, none⟩ (.int .i8 0)).cell? ⟨b, 0, none⟩ = some (.slice (some ⟨g, 0, none⟩) O.length cap) := k2.cell 0
      exact bufWrite_grow h.bb hbw h.nb hNw hbk (Tryd.Buffer_tryGrow_none b _ O.length cap P.length _ c0 hle hcm (by omega)) (grow_row k2 (hg.setOther 2 _ hgb) hcs hle hcm hT (bts_one O) hO hP (by omega) hlim hgb) hP hx hga
/-- Bytes: all that it holds. -/
theorem bufBytes_any {w : World} {base b : Nat} {N : Nat → Prop} {O : List UInt8} (h : Bf w base b N O) :
    Calls Tryd.prog 43 #[.pointer (some ⟨b, 0, none⟩)] w fun e w' => (∃ A c, e = .returned (.slice A O.length c) ∧ O.length ≤ c ∧ c ≤ 9223372036854775807 ∧ RB w' A O) ∧ Only w w' := by
  obtain ⟨lr, ⟨rfl, hbk⟩ | ⟨g, cap, cur, hbk, hg, hcs, hle, hcm, hT, hgb, hgN, hgB, hO⟩⟩ := h.ex
  · have c0 : w.cell? ⟨b, 0, none⟩ = some (.slice none 0 0) := hbk.cell 0
    have c1 : w.cell? ⟨b, 1, none⟩ = some (.int .i64 0) := hbk.cell 1
    clear hbk h
    go_enter Tryd.func43, Tryd.ntmps43
    go_wp2
    go_region_held3 (fun wx => wx.cell? ⟨b, 0, none⟩ = some (.slice none 0 0) ∧ wx.cell? ⟨b, 1, none⟩ = some (.int .i64 0)) (first | go_keep) (fail)
    go_wp2
    go_ret
    exact ⟨⟨none, 0, rfl, Nat.le_refl _, by decide, RB.nil _ _⟩, (Only.refl _).drew⟩
  · have c0 : w.cell? ⟨b, 0, none⟩ = some (.slice (some ⟨g, 0, none⟩) O.length cap) := hbk.cell 0
    have c1 : w.cell? ⟨b, 1, none⟩ = some (.int .i64 0) := hbk.cell 1
    have hcm' : cap ≤ 9223372036854775807 := hcm
    have hrb : RB w (some ⟨g, 0, none⟩) O := by
      intro _
      refine ⟨g, 0, rfl, fun i u hu => ?_⟩
      have h1 : (cur.toList.take O.length)[i]? = (bts O)[i]? := by rw [hT]
      have hi : i < O.length := by
        rcases Nat.lt_or_ge i O.length with h' | h'
        · exact h'
        · rw [List.getElem?_eq_none h'] at hu; cases hu
      rw [List.getElem?_take, if_pos hi, bts_get, hu] at h1
      rw [Nat.zero_add, hg.cell i]
      simpa using h1
    have HE := Lib.hid hrb
    clear hbk h hg hT hcm hrb
    have hli : (O.length : Int) ≤ (cap : Int) := by omega
    go_enter Tryd.func43, Tryd.ntmps43
    go_wp2
    go_region_held3 (fun wx => wx.cell? ⟨b, 0, none⟩ = some (.slice (some ⟨g, 0, none⟩) O.length cap) ∧ wx.cell? ⟨b, 1, none⟩ = some (.int .i64 0)) (first | go_keep) (fail)
    go_wp2
    go_ret
    exact ⟨⟨some ⟨g, 0, none⟩, cap, rfl, hle, hcm', HE.out⟩, (Only.refl _).drew⟩
/-- The cells of a bufio.Writer. -/
def wcells (b bb n : Nat) : Array Value := #[.nilIface, .slice (some ⟨bb, 0, none⟩) 4096 4096, .int .i64 n, .iface 63 (.pointer (some ⟨b, 0, none⟩))]
/-- A bufio.Writer in block p, its row in block bb, over a bytes.Buffer in block b that holds O; B waits in the row. -/
structure Wd (w : World) (base b p bb : Nat) (N : Nat → Prop) (O B : List UInt8) : Prop where
  bf : Bf w base b N O
  np : N p
  nbb : N bb
  pbb : p ≠ bb
  bp : base ≤ p
  bbb : base ≤ bb
  size : base ≤ w.heap.size
  nw : ∀ k, N k → k < w.heap.size
  c : Blk w p (wcells b bb B.length) 104
  row : ∃ L, RowB w bb 4096 L ∧ L.take B.length = B
  le : B.length ≤ 4096
/-- The frame of what a writer does. -/
def SW (base p bb : Nat) (N : Nat → Prop) (k : Nat) : Prop := SB base N k ∨ k = p ∨ k = bb
section
variable {w w' : World} {base b p bb : Nat} {N : Nat → Prop} {O B : List UInt8}
theorem Wd.same (h : Wd w base b p bb N O B) (hC : Only w w') : Wd w' base b p bb N O B := by
  have hs : w'.heap.size = w.heap.size := by rw [hC.heap]
  obtain ⟨L, h1, h2⟩ := h.row
  exact ⟨h.bf.turn (fun _ _ e => e) (fun k _ _ => hC.at_ k), h.np, h.nbb, h.pbb, h.bp, h.bbb, by rw [hs]; exact h.size, fun k hk => by rw [hs]; exact h.nw k hk, h.c.same (hC.at_ p), ⟨L, h1.same (hC.at_ bb), h2⟩, h.le⟩
theorem avail_any (h : Wd w base b p bb N O B) : Calls Tryd.prog 86 #[.pointer (some ⟨p, 0, none⟩)] w fun e w' => e = .returned (.int .i64 (4096 - B.length : Nat)) ∧ Only w w' := by
  have c1 : w.cell? ⟨p, 1, none⟩ = some (.slice (some ⟨bb, 0, none⟩) 4096 4096) := h.c.cell 1
  have c2 : w.cell? ⟨p, 2, none⟩ = some (.int .i64 B.length) := h.c.cell 2
  have hle := h.le
  have hi0 : IntKind.i64.wrap (4096 - (B.length : Int)) = ((4096 - B.length : Nat) : Int) := by rw [IntKind.wrap_i64]; omega
  clear h
  go_enter Tryd.func86, Tryd.ntmps86
  go_wp2
  go_region_held3 (fun wx => wx.cell? ⟨p, 1, none⟩ = some (.slice (some ⟨bb, 0, none⟩) 4096 4096) ∧ wx.cell? ⟨p, 2, none⟩ = some (.int .i64 B.length)) (first | go_keep) (fail)
  go_wp2
  go_ret
  exact ⟨rfl, (Only.refl _).drew⟩
theorem wbuffered_any (h : Wd w base b p bb N O B) : Calls Tryd.prog 87 #[.pointer (some ⟨p, 0, none⟩)] w fun e w' => e = .returned (.int .i64 B.length) ∧ w = w' := by
  have c2 : w.cell? ⟨p, 2, none⟩ = some (.int .i64 B.length) := h.c.cell 2
  clear h
  go_enter Tryd.func87, Tryd.ntmps87
  go_wp2
  go_ret
  exact ⟨rfl, rfl⟩
set_option maxRecDepth 200000 in
set_option maxHeartbeats 6400000 in
theorem flush_any (h : Wd w base b p bb N O B) (hlim : O.length + B.length ≤ 140737488355328) :
    Calls Tryd.prog 42 #[.pointer (some ⟨p, 0, none⟩)] w fun e w' => e = .returned .nilIface ∧ Wd w' base b p bb N (O ++ B) [] ∧ Chg (SW base p bb N) w w' := by
  have c0 : w.cell? ⟨p, 0, none⟩ = some .nilIface := h.c.cell 0
  have c1 : w.cell? ⟨p, 1, none⟩ = some (.slice (some ⟨bb, 0, none⟩) 4096 4096) := h.c.cell 1
  have c2 : w.cell? ⟨p, 2, none⟩ = some (.int .i64 B.length) := h.c.cell 2
  have c3 : w.cell? ⟨p, 3, none⟩ = some (.iface 63 (.pointer (some ⟨b, 0, none⟩))) := h.c.cell 3
  by_cases h0 : B.length = 0
  · obtain rfl : B = [] := List.eq_nil_of_length_eq_zero h0
    have HE := Lib.hid h
    clear h h0
    go_enter Tryd.func42, Tryd.ntmps42
    go_wp2
    go_ret
    exact ⟨rfl, by rw [List.append_nil]; exact HE.out, Chg.refl _ _⟩
  · have hle := h.le
    have hli : (B.length : Int) ≤ 4096 := by omega
    have hl0 : ((B.length : Int) == 0) = false := by rw [beq_eq_false_iff_ne]; omega
    have hpos : 0 < B.length := by omega
    obtain ⟨L, hL, hLB⟩ := h.row
    have hrb : RB w.drew (some ⟨bb, 0, none⟩) B := (hL.rb 0 B (by simpa using hLB) (by omega)).drewN 1
    have hbw := bufWrite_any (w := w.drew) (c := 4096) ((h.bf.turn (fun _ _ e => e) (fun k _ _ => rfl) : Bf w.drew base b N O)) h.size h.nw hrb rfl (fun g o e => by injection e with e; injection e with e _; subst e; exact h.nbb) hpos hlim
    have H := Lib.hid (And.intro h (And.intro hbw (And.intro hL hLB)))
    clear h hbw hL hLB hrb h0
    go_enter Tryd.func42, Tryd.ntmps42
    go_wp2
    go_region_held3 (fun wx => wx.cell? ⟨p, 1, none⟩ = some (.slice (some ⟨bb, 0, none⟩) 4096 4096) ∧ wx.cell? ⟨p, 2, none⟩ = some (.int .i64 B.length) ∧ wx.cell? ⟨p, 3, none⟩ = some (.iface 63 (.pointer (some ⟨b, 0, none⟩))))
      (first | go_keep | exact ⟨(HP.out.1.cell 1), (HP.out.1.cell 2), (HP.out.1.cell 3)⟩)
      (first | (go_at_call 108; refine H.out.2.1.mono ?_; rintro e w3 ⟨rfl, hbf, hC⟩; have hp3 : Blk w3 p (wcells b bb B.length) 104 := H.out.1.c.same (hC.block p (H.out.1.nw p H.out.1.np) (fun e => e.2 H.out.1.np)); have HP := Lib.hid (And.intro hp3 (And.intro hbf hC)); clear hp3 hbf hC))
    have d2 : w3.cell? ⟨p, 2, none⟩ = some (.int .i64 B.length) := HP.out.1.cell 2
    have f2 := HP.out.1.free 2
    go_wp2
    go_ret
    obtain ⟨hp3, hbf, hC⟩ := HP.out
    obtain ⟨h, _, hL, hLB⟩ := H.out
    have N3 : ∀ k, k ≠ p → (w3.setCell ⟨p, 2, none⟩ (.int .i64 0)).heap[k]? = w3.heap[k]? := fun k hk => Below.heap_setCell _ _ _ _ hk
    have hsz : (w3.setCell ⟨p, 2, none⟩ (.int .i64 0)).heap.size = w3.heap.size := World.size_setCell _ _ _
    have hC1 : Chg (SB base N) w w3 := ((Chg.refl _ w).drew).trans hC
    refine ⟨rfl, ⟨hbf.turn (fun _ _ e => e) (fun k _ hk => N3 k (fun e => hk (e ▸ h.np))), h.np, h.nbb, h.pbb, h.bp, h.bbb, by rw [hsz]; have := hC1.size; have := h.size; omega, fun k hk => by rw [hsz]; exact Nat.lt_of_lt_of_le (h.nw k hk) hC1.size, hp3.set 2 _, ⟨L, (hL.same (hC1.block bb (h.nw bb h.nbb) (fun e => e.2 h.nbb))).same (N3 bb (Ne.symm h.pbb)), rfl⟩, by simp⟩, (hC1.sub (fun k _ e => .inl e)).setCell (p := ⟨p, 2, none⟩) (fun _ => .inr (.inl rfl)) _⟩
theorem Wd.put (h : Wd w base b p bb N O B) (hlt : B.length < 4096) (c : UInt8) : Wd ((w.setCell ⟨bb, B.length, none⟩ (.int .u8 c.toNat)).setCell ⟨p, 2, none⟩ (.int .i64 ((B.length : Int) + 1))) base b p bb N O (B ++ [c]) ∧ Chg (SW base p bb N) w ((w.setCell ⟨bb, B.length, none⟩ (.int .u8 c.toNat)).setCell ⟨p, 2, none⟩ (.int .i64 ((B.length : Int) + 1))) := by
  have hsz : ((w.setCell ⟨bb, B.length, none⟩ (.int .u8 c.toNat)).setCell ⟨p, 2, none⟩ (.int .i64 ((B.length : Int) + 1))).heap.size = w.heap.size := by rw [World.size_setCell, World.size_setCell]
  have hN : ∀ k, k ≠ p → k ≠ bb → ((w.setCell ⟨bb, B.length, none⟩ (.int .u8 c.toNat)).setCell ⟨p, 2, none⟩ (.int .i64 ((B.length : Int) + 1))).heap[k]? = w.heap[k]? := fun k h1 h2 => (Below.heap_setCell _ _ _ _ h1).trans (Below.heap_setCell _ _ _ _ h2)
  obtain ⟨L, hL, hLB⟩ := h.row
  have hll := hL.len
  refine ⟨⟨h.bf.turn (fun _ _ e => e) (fun k _ hk => hN k (fun e => hk (e ▸ h.np)) (fun e => hk (e ▸ h.nbb))), h.np, h.nbb, h.pbb, h.bp, h.bbb, by rw [hsz]; exact h.size, fun k hk => by rw [hsz]; exact h.nw k hk, ?_, ⟨L.set B.length c, (hL.set hlt c).same (Below.heap_setCell _ _ _ _ (Ne.symm h.pbb)), ?_⟩, by simp; omega⟩, ((Chg.refl _ w).setCell (p := ⟨bb, B.length, none⟩) (fun _ => .inr (.inr rfl)) _).setCell (p := ⟨p, 2, none⟩) (fun _ => .inr (.inl rfl)) _⟩
  · have := (h.c.setOther (k := bb) B.length (.int .u8 c.toNat) h.pbb).set 2 (.int .i64 ((B.length : Int) + 1))
    rw [List.length_append]
    exact this
  · rw [List.length_append]
    show (L.set B.length c).take (B.length + 1) = B ++ [c]
    rw [List.take_succ_eq_append_getElem (by rw [List.length_set]; omega), List.take_set, hLB, List.getElem_set_self, List.set_eq_of_length_le (Nat.le_refl _)]
set_option maxRecDepth 200000 in
set_option maxHeartbeats 6400000 in
theorem writeByte_room (h : Wd w base b p bb N O B) (hlt : B.length < 4096) (c : UInt8) :
    Calls Tryd.prog 80 #[.pointer (some ⟨p, 0, none⟩), .int .u8 c.toNat] w fun e w' => e = .returned .nilIface ∧ Wd w' base b p bb N O (B ++ [c]) ∧ Chg (SW base p bb N) w w' := by
  have c0 : w.cell? ⟨p, 0, none⟩ = some .nilIface := h.c.cell 0
  have hav := avail_any h
  have hpos : ¬ ((4096 - B.length : Nat) : Int) ≤ 0 := by omega
  have hbi : (B.length : Int) ≤ 4095 := by omega
  have hbl : (B.length : Int) < 4096 := by omega
  have hb0 : (0 : Int) ≤ (B.length : Int) := by omega
  have HA := Lib.hid (And.intro hav h)
  clear hav h
  go_enter Tryd.func80, Tryd.ntmps80
  go_wp2_with (go_at_call 86; refine HA.out.1.mono ?_; rintro e w1 ⟨rfl, hO⟩; have HO := Lib.hid hO; clear hO; refine Hid.out ?_)
  have h1 := HA.out.2.same HO.out
  obtain ⟨L, hL, hLB⟩ := h1.row
  have q1 : w1.cell? ⟨p, 1, none⟩ = some (.slice (some ⟨bb, 0, none⟩) 4096 4096) := h1.c.cell 1
  have q2 : w1.cell? ⟨p, 2, none⟩ = some (.int .i64 B.length) := h1.c.cell 2
  have gc := hL.cell hlt
  have gf := hL.free hlt
  have hput := Wd.put (h1.same (w' := w1.drew) ⟨rfl, rfl, rfl, rfl⟩) hlt c
  have hdf : ∀ v, (w1.setCell ⟨bb, B.length, none⟩ v).drew.cell? ⟨p, 2, none⟩ = some (.int .i64 B.length) := fun v => by
    show (w1.setCell ⟨bb, B.length, none⟩ v).cell? ⟨p, 2, none⟩ = _
    rw [World.cell?_setCell_other _ _ _ _ (by intro e; injection e with e _; exact h1.pbb e.symm)]; exact q2
  have hdf1 : ∀ v, (w1.setCell ⟨bb, B.length, none⟩ v).drew.cell? ⟨p, 1, none⟩ = some (.slice (some ⟨bb, 0, none⟩) 4096 4096) := fun v => by
    show (w1.setCell ⟨bb, B.length, none⟩ v).cell? ⟨p, 1, none⟩ = _
    rw [World.cell?_setCell_other _ _ _ _ (by intro e; injection e with e _; exact h1.pbb e.symm)]; exact q1
  have hff : ∀ v, (w1.setCell ⟨bb, B.length, none⟩ v).drew.frozen? ⟨p, 2, none⟩ = false := fun v => by
    show (w1.setCell ⟨bb, B.length, none⟩ v).frozen? ⟨p, 2, none⟩ = _
    rw [World.frozen?_setCell]; exact h1.c.free 2
  refine Lib.hid ?_
  have HP := Lib.hid hput
  clear h1 hL hLB hput
  go_wp2
  go_region_held3 (fun wx => wx.cell? ⟨p, 1, none⟩ = some (.slice (some ⟨bb, 0, none⟩) 4096 4096) ∧ wx.cell? ⟨p, 2, none⟩ = some (.int .i64 B.length))
    (first | go_keep | exact ⟨hdf1 _, hdf _⟩)
    (fail)
  go_wp2
  go_ret
  exact ⟨rfl, HP.out.1, (HO.out.chg _).drew.trans HP.out.2⟩
set_option maxRecDepth 200000 in
set_option maxHeartbeats 6400000 in
theorem writeByte_full (h : Wd w base b p bb N O B) (hB : B.length = 4096) (hlim : O.length + B.length ≤ 140737488355328) (c : UInt8) :
    Calls Tryd.prog 80 #[.pointer (some ⟨p, 0, none⟩), .int .u8 c.toNat] w fun e w' => e = .returned .nilIface ∧ Wd w' base b p bb N (O ++ B) [c] ∧ Chg (SW base p bb N) w w' := by
  have c0 : w.cell? ⟨p, 0, none⟩ = some .nilIface := h.c.cell 0
  have hav := avail_any h
  rw [show (4096 - B.length : Nat) = 0 by omega] at hav
  have HA := Lib.hid (And.intro hav h)
  have HF := Lib.hid (fun w1 (h1 : Wd w1 base b p bb N O B) => flush_any h1 hlim)
  clear hav h
  go_enter Tryd.func80, Tryd.ntmps80
  go_wp2_with (first
    | (go_at_call 86; refine HA.out.1.mono ?_; rintro e w1 ⟨rfl, hO⟩; have HO := Lib.hid hO; clear hO)
    | (go_at_call 42; refine (HF.out w1 (HA.out.2.same HO.out)).mono ?_; rintro e w2 ⟨rfl, h2, hC2⟩; have H2 := Lib.hid (And.intro h2 hC2); clear h2 hC2; refine Hid.out ?_))
  have h2 := H2.out.1
  obtain ⟨L, hL, hLB⟩ := h2.row
  have q1 : w2.cell? ⟨p, 1, none⟩ = some (.slice (some ⟨bb, 0, none⟩) 4096 4096) := h2.c.cell 1
  have q2 : w2.cell? ⟨p, 2, none⟩ = some (.int .i64 0) := h2.c.cell 2
  have gc := hL.cell (i := 0) (by decide)
  have gf := hL.free (i := 0) (by decide)
  have hput := Wd.put (h2.same (w' := w2.drew) ⟨rfl, rfl, rfl, rfl⟩) (by simp) c
  have hdf : ∀ v, (w2.setCell ⟨bb, 0, none⟩ v).drew.cell? ⟨p, 2, none⟩ = some (.int .i64 0) := fun v => by
    show (w2.setCell ⟨bb, 0, none⟩ v).cell? ⟨p, 2, none⟩ = _
    rw [World.cell?_setCell_other _ _ _ _ (by intro e; injection e with e _; exact h2.pbb e.symm)]; exact q2
  have hdf1 : ∀ v, (w2.setCell ⟨bb, 0, none⟩ v).drew.cell? ⟨p, 1, none⟩ = some (.slice (some ⟨bb, 0, none⟩) 4096 4096) := fun v => by
    show (w2.setCell ⟨bb, 0, none⟩ v).cell? ⟨p, 1, none⟩ = _
    rw [World.cell?_setCell_other _ _ _ _ (by intro e; injection e with e _; exact h2.pbb e.symm)]; exact q1
  have hff : ∀ v, (w2.setCell ⟨bb, 0, none⟩ v).drew.frozen? ⟨p, 2, none⟩ = false := fun v => by
    show (w2.setCell ⟨bb, 0, none⟩ v).frozen? ⟨p, 2, none⟩ = _
    rw [World.frozen?_setCell]; exact h2.c.free 2
  refine Lib.hid ?_
  have HP := Lib.hid hput
  clear h2 hL hLB hput
  go_wp2
  go_region_held3 (fun wx => wx.cell? ⟨p, 1, none⟩ = some (.slice (some ⟨bb, 0, none⟩) 4096 4096) ∧ wx.cell? ⟨p, 2, none⟩ = some (.int .i64 0))
    (first | go_keep | exact ⟨hdf1 _, hdf _⟩)
    (fail)
  go_wp2
  go_ret
  exact ⟨rfl, HP.out.1, ((HO.out.chg _).trans H2.out.2).drew.trans HP.out.2⟩
theorem writeByte_any (h : Wd w base b p bb N O B) (hlim : O.length + B.length ≤ 140737488355328) (c : UInt8) :
    Calls Tryd.prog 80 #[.pointer (some ⟨p, 0, none⟩), .int .u8 c.toNat] w fun e w' => e = .returned .nilIface ∧ (∃ O' B', O' ++ B' = O ++ B ++ [c] ∧ Wd w' base b p bb N O' B') ∧ Chg (SW base p bb N) w w' := by
  by_cases hlt : B.length < 4096
  · exact (writeByte_room h hlt c).mono fun e w' ⟨h1, h2, h3⟩ => ⟨h1, ⟨O, B ++ [c], by simp, h2⟩, h3⟩
  · exact (writeByte_full h (by have := h.le; omega) hlim c).mono fun e w' ⟨h1, h2, h3⟩ => ⟨h1, ⟨O ++ B, [c], by simp, h2⟩, h3⟩
end
section
variable {w w' : World} {base b p bb : Nat} {N : Nat → Prop} {O B : List UInt8}
theorem Wd.puts (h : Wd w base b p bb N O B) (X : List UInt8) (hX : B.length + X.length ≤ 4096) (k : Nat) (hk : k = B.length + X.length) : Wd ((w.setCells bb B.length (bts X)).setCell ⟨p, 2, none⟩ (.int .i64 k)) base b p bb N O (B ++ X) ∧ Chg (SW base p bb N) w ((w.setCells bb B.length (bts X)).setCell ⟨p, 2, none⟩ (.int .i64 k)) := by
  have hC : Chg (SW base p bb N) w ((w.setCells bb B.length (bts X)).setCell ⟨p, 2, none⟩ (.int .i64 k)) := (Chg.setCells (g := bb) (fun _ => .inr (.inr rfl)) _ _ (Chg.refl _ w)).setCell (p := ⟨p, 2, none⟩) (fun _ => .inr (.inl rfl)) _
  have hsz := hC.size
  have hN : ∀ j, j ≠ p → j ≠ bb → ((w.setCells bb B.length (bts X)).setCell ⟨p, 2, none⟩ (.int .i64 k)).heap[j]? = w.heap[j]? := fun j h1 h2 => (Below.heap_setCell _ _ _ _ h1).trans (heap_setCells _ _ _ _ _ h2)
  obtain ⟨L, hL, hLB⟩ := h.row
  have hll := hL.len
  refine ⟨⟨h.bf.turn (fun _ _ e => e) (fun j _ hj => hN j (fun e => hj (e ▸ h.np)) (fun e => hj (e ▸ h.nbb))), h.np, h.nbb, h.pbb, h.bp, h.bbb, Nat.le_trans h.size hsz, fun j hj => Nat.lt_of_lt_of_le (h.nw j hj) hsz, ?_, ⟨splice L B.length X, (hL.setCells hX).same (Below.heap_setCell _ _ _ _ (Ne.symm h.pbb)), ?_⟩, by rw [List.length_append]; exact hX⟩, hC⟩
  · have := (h.c.same (w' := w.setCells bb B.length (bts X)) (heap_setCells _ _ _ _ _ h.pbb)).set 2 (.int .i64 k)
    rw [List.length_append, ← hk]
    exact this
  · rw [List.length_append]
    unfold splice
    have hl : (L.take B.length).length = B.length := by rw [List.length_take]; omega
    rw [List.take_append_of_le_length (by rw [List.length_append, hl]; exact Nat.le_refl _), List.take_of_length_le (by rw [List.length_append, hl]; exact Nat.le_refl _), hLB]
/-- The loop's relation. -/
def WRel (base b p bb : Nat) (N : Nat → Prop) (T : List UInt8) (w : World) (gk : Nat) (u1 u4 : Value) (wr : World) : Prop :=
  ∃ (O1 B1 P2 : List UInt8) (A2 : Option Addr) (c2 m : Nat), O1 ++ B1 ++ P2 = T ∧ Wd wr base b p bb N O1 B1 ∧ u1 = .slice A2 P2.length c2 ∧ P2.length ≤ c2 ∧ c2 ≤ 9223372036854775807 ∧ RB wr A2 P2 ∧ (∀ g o, A2 = some ⟨g, o, none⟩ → N g ∧ g ≠ bb ∧ g ≠ p) ∧ 0 < P2.length ∧ P2.length ≤ 4096 ∧ u4 = .int .i64 m ∧ m ≤ 4096 * (1 - gk) ∧ (gk = 0 → P2.length ≤ 4096 - B1.length) ∧ Chg (SW base p bb N) w wr
set_option maxRecDepth 200000 in
set_option maxHeartbeats 12800000 in
theorem wwrite_any (h : Wd w base b p bb N O B) {A : Option Addr} {n c : Nat} {P : List UInt8} (hr : RB w A P) (hn : n = P.length) (hc : P.length ≤ c) (hc2 : c ≤ 9223372036854775807) (hA : ∀ g o, A = some ⟨g, o, none⟩ → N g ∧ g ≠ bb ∧ g ≠ p) (hP : 0 < P.length) (hP2 : P.length ≤ 4096) (hlim : (O ++ B ++ P).length ≤ 140737488355328) :
    Calls Tryd.prog 81 #[.pointer (some ⟨p, 0, none⟩), .slice A n c] w fun e w' => (∃ v, e = .returned v) ∧ (∃ O' B', O' ++ B' = O ++ B ++ P ∧ Wd w' base b p bb N O' B') ∧ Chg (SW base p bb N) w w' := by
  subst hn
  have H := Lib.hid (And.intro h (And.intro hr hA))
  generalize hT : O ++ B ++ P = T at *
  have HT := Lib.hid hT
  clear h hr hA hT
  go_enter Tryd.func81, Tryd.ntmps81
  go_wp2
  go_loopg [1, 4, 6] 1 (fun gk u1 u4 _ wr => WRel base b p bb N T w gk u1 u4 wr)
  case atStart => exact ⟨O, B, P, A, c, 0, HT.out, H.out.1, rfl, hc, hc2, H.out.2.1, H.out.2.2, hP, hP2, rfl, by decide, (fun e => by cases e), Chg.refl _ _⟩
  case round =>
    obtain ⟨O1, B1, P2, A2, c2, m, hT, hW, rfl, hc2l, hc2m, hrb, hA2, hp0, hp1, rfl, hm, hfit0, hC⟩ := hrel
    have hav := avail_any hW
    have hle := hW.le
    have hOl : O1.length + B1.length + P2.length ≤ 140737488355328 := by rw [← hT, List.length_append, List.length_append] at hlim; exact hlim
    by_cases hfit : P2.length ≤ 4096 - B1.length
    · have hfi : ¬ ((4096 - B1.length : Nat) : Int) < (P2.length : Int) := by omega
      have HA := Lib.hid (And.intro hav (And.intro hW (And.intro hrb (And.intro hT hC))))
      clear hav hW hrb hT hC hA2 hfit0
      go_wp2_with (go_at_call 86; refine HA.out.1.mono ?_; rintro e w1 ⟨rfl, hO⟩; have HO := Lib.hid hO; clear hO; refine Hid.out ?_)
      have h1 := HA.out.2.1.same HO.out
      have c0 : w1.cell? ⟨p, 0, none⟩ = some .nilIface := h1.c.cell 0
      refine Lib.hid ?_
      have H1 := Lib.hid h1
      clear h1
      go_wp2
      refine wp_still_drew 10 Tryd.mixedD (by kernel_rfl) (fun w2 hw2 => ?_)
      have hO2 : Only w1 w2 := by rw [hw2]; exact (Only.refl w1).drew
      clear hw2
      have h2 := H1.out.same hO2
      have c1 : w2.cell? ⟨p, 1, none⟩ = some (.slice (some ⟨bb, 0, none⟩) 4096 4096) := h2.c.cell 1
      have c2' : w2.cell? ⟨p, 2, none⟩ = some (.int .i64 B1.length) := h2.c.cell 2
      have hne : ¬ 4096 = B1.length := by omega
      have hli : (B1.length : Int) ≤ 4096 := by omega
      have H2 := Lib.hid (And.intro h2 hO2)
      clear h2 hO2 c0
      simp only [List.take_succ_cons, List.take_zero, List.drop_succ_cons, List.drop_zero]
      repeat still_step
      refine wpStill_nil ?_
      obtain ⟨L, hL, _⟩ := H2.out.1.row
      have hrb2 : RB w2 A2 P2 := (HA.out.2.2.1.same (fun g _ _ _ => HO.out.at_ g)).same (fun g _ _ _ => H2.out.2.at_ g)
      refine wpList_copy_B rfl (.tmp 80) (.tmp 81) rfl bb B1.length (4096 - B1.length) (4096 - B1.length) rfl A2 P2.length c2 rfl P2 rfl hrb2 hL (by omega) P2.length (by omega) ?_
      have hput := H2.out.1.puts P2 (by omega) _ rfl
      rw [List.take_of_length_le (Nat.le_refl _)]
      have N3 : (w2.setCells bb B1.length (bts P2)).heap[p]? = w2.heap[p]? := heap_setCells _ _ _ _ _ H2.out.1.pbb
      have k3 := H2.out.1.c.same N3
      generalize w2.setCells bb B1.length (bts P2) = w3 at hput k3 ⊢
      have d2 : w3.cell? ⟨p, 2, none⟩ = some (.int .i64 B1.length) := k3.cell 2
      have f2 := k3.free 2
      have HP := Lib.hid hput
      clear hL N3 k3 hput hrb2 c1 c2'
      go_wp2
      go_ret2
      obtain ⟨_, hW, hrb, hT, hC⟩ := HA.out
      exact ⟨⟨_, rfl⟩, ⟨O1, B1 ++ P2, by rw [← hT]; simp, HP.out.1⟩, ((hC.trans (HO.out.chg _)).trans (H2.out.2.chg _)).trans HP.out.2⟩
    · have hgk : 1 ≤ gk := by
        rcases Nat.eq_zero_or_pos gk with h | h
        · exact absurd (hfit0 h) hfit
        · exact h
      obtain rfl : m = 0 := by
        have : 1 - gk = 0 := by omega
        rw [this] at hm
        omega
      obtain ⟨g, o, rfl, hx⟩ := hrb (by rintro rfl; simp at hp0)
      have hBpos : ((B1.length : Int) == 0) = false := by rw [beq_eq_false_iff_ne]; omega
      by_cases hfull : B1.length = 4096
      · have hav0 : Calls Tryd.prog 86 #[.pointer (some ⟨p, 0, none⟩)] wr fun e w' => e = .returned (.int .i64 0) ∧ Only wr w' := by
          rw [show (4096 - B1.length : Nat) = 0 by omega] at hav
          exact hav
        have hfi : (0 : Int) < (P2.length : Int) := by omega
        have hlim1 : O1.length + B1.length ≤ 140737488355328 := by omega
        have HA := Lib.hid (And.intro hav0 (And.intro hW (And.intro hx (And.intro hT (And.intro hC (And.intro hA2 hfull))))))
        clear hav hav0 hW hx hT hC hA2 hfit0 hrb
        go_wp2_with (go_at_call 86; refine HA.out.1.mono ?_; rintro e w1 ⟨rfl, hO⟩; have HO := Lib.hid hO; clear hO; refine Hid.out ?_)
        have h1 := HA.out.2.1.same HO.out
        have c0 : w1.cell? ⟨p, 0, none⟩ = some .nilIface := h1.c.cell 0
        refine Lib.hid ?_
        have H1 := Lib.hid h1
        clear h1
        go_wp2_with (go_at_call 87; refine (wbuffered_any H1.out).mono ?_; rintro e w' ⟨rfl, rfl⟩)
        refine wp_still_drew 10 Tryd.mixedD (by kernel_rfl) (fun w2 hw2 => ?_)
        have hO2 : Only w1 w2 := by rw [hw2]; exact (Only.refl w1).drew
        clear hw2
        have h2 := H1.out.same hO2
        have c1 : w2.cell? ⟨p, 1, none⟩ = some (.slice (some ⟨bb, 0, none⟩) 4096 4096) := h2.c.cell 1
        have c2' : w2.cell? ⟨p, 2, none⟩ = some (.int .i64 4096) := by
          have := h2.c.cell 2
          rw [this]
          show some (Value.int .i64 (B1.length : Int)) = _
          rw [hfull]
          rfl
        have H2 := Lib.hid (And.intro h2 hO2)
        clear h2 hO2 c0
        simp only [List.take_succ_cons, List.take_zero, List.drop_succ_cons, List.drop_zero]
        repeat still_step
        refine wpStill_nil ?_
        obtain ⟨L, hL, _⟩ := H2.out.1.row
        have hrb2 : RB w2 (some ⟨g, o, none⟩) P2 := RB.same (w := wr) (fun _ => ⟨g, o, rfl, HA.out.2.2.1⟩) (fun g _ _ _ => ((HO.out.trans H2.out.2).at_ g))
        refine wpList_copy_B rfl (.tmp 43) (.tmp 44) rfl bb 0 0 0 rfl (some ⟨g, o, none⟩) P2.length c2 rfl P2 rfl hrb2 hL (by omega) 0 (by simp) ?_
        have hput := H2.out.1.puts [] (by simpa using hle) 4096 (by simpa using hfull.symm)
        rw [List.append_nil] at hput
        replace hput : Wd (w2.setCell ⟨p, 2, none⟩ (.int .i64 4096)) base b p bb N O1 B1 ∧ Chg (SW base p bb N) w2 (w2.setCell ⟨p, 2, none⟩ (.int .i64 4096)) := hput
        show wpList _ _ _ _ _ w2
        have f2 := H2.out.1.c.free 2
        have HP := Lib.hid hput
        have HH := Lib.hid (And.intro hlim1 hrb2)
        clear hL hput hrb2 c1 hfull hlim1
        go_wp2_with (go_at_call 42; refine (flush_any HP.out.1 HH.out.1).mono ?_; rintro e w5 ⟨rfl, h5, hC5⟩; have H5 := Lib.hid (And.intro h5 hC5); clear h5 hC5)
        go_roundg 0
        case measure => omega
        case rel =>
          obtain ⟨_, hW, hx, hT, hC, hA2, hfull⟩ := HA.out
          have hC5 := ((hC.trans (HO.out.chg _)).trans (H2.out.2.chg _)).trans (HP.out.2.trans H5.out.2)
          have hCx := ((HO.out.chg (SW base p bb N)).trans (H2.out.2.chg _)).trans (HP.out.2.trans H5.out.2)
          have hNg := hA2 g o rfl
          refine ⟨O1 ++ B1, [], P2, some ⟨g, o, none⟩, c2, 0, by rw [← hT]; simp, H5.out.1, rfl, hc2l, hc2m, ?_, hA2, hp0, hp1, rfl, by omega, fun _ => by simpa using hp1, hC5⟩
          exact RB.same (w := wr) (fun _ => ⟨g, o, rfl, hx⟩) (fun g' o' e _ => by
            injection e with e; injection e with e _; subst e
            exact hCx.block g (hW.nw g hNg.1) (fun e => by rcases e with e | e | e; exact e.2 hNg.1; exact hNg.2.2 e; exact hNg.2.1 e))
      · obtain ⟨a, ha⟩ : ∃ a, a = 4096 - B1.length := ⟨_, rfl⟩
        rw [← ha] at hav hfit
        have hfi : (a : Int) < (P2.length : Int) := by omega
        have hfn : a < P2.length := by omega
        have hca : ¬ c2 = a := by omega
        have hac : (a : Int) ≤ (c2 : Int) := by omega
        have hne : ¬ 4096 = B1.length := by omega
        have hli : (B1.length : Int) ≤ 4096 := by omega
        have hba : B1.length + a = 4096 := by omega
        have hlim1 : O1.length + (B1 ++ P2.take a).length ≤ 140737488355328 := by rw [List.length_append, List.length_take]; omega
        have HA := Lib.hid (And.intro hav (And.intro hW (And.intro hx (And.intro hT (And.intro hC (And.intro hA2 (And.intro hlim1 (And.intro ha hba))))))))
        have haa : a ≤ 4096 := by omega
        clear hav hW hx hT hC hA2 hfit0 hrb hlim1 hfull ha hba
        go_wp2_with (go_at_call 86; refine HA.out.1.mono ?_; rintro e w1 ⟨rfl, hO⟩; have HO := Lib.hid hO; clear hO; refine Hid.out ?_)
        have h1 := HA.out.2.1.same HO.out
        have c0 : w1.cell? ⟨p, 0, none⟩ = some .nilIface := h1.c.cell 0
        refine Lib.hid ?_
        have H1 := Lib.hid h1
        clear h1
        go_wp2_with (go_at_call 87; refine (wbuffered_any H1.out).mono ?_; rintro e w' ⟨rfl, rfl⟩)
        refine wp_still_drew 10 Tryd.mixedD (by kernel_rfl) (fun w2 hw2 => ?_)
        have hO2 : Only w1 w2 := by rw [hw2]; exact (Only.refl w1).drew
        clear hw2
        have h2 := H1.out.same hO2
        have c1 : w2.cell? ⟨p, 1, none⟩ = some (.slice (some ⟨bb, 0, none⟩) 4096 4096) := h2.c.cell 1
        have c2' : w2.cell? ⟨p, 2, none⟩ = some (.int .i64 B1.length) := h2.c.cell 2
        have H2 := Lib.hid (And.intro h2 hO2)
        clear h2 hO2 c0
        simp only [List.take_succ_cons, List.take_zero, List.drop_succ_cons, List.drop_zero]
        repeat still_step
        refine wpStill_nil ?_
        obtain ⟨L, hL, _⟩ := H2.out.1.row
        have hrb2 : RB w2 (some ⟨g, o, none⟩) P2 := RB.same (w := wr) (fun _ => ⟨g, o, rfl, HA.out.2.2.1⟩) (fun g _ _ _ => ((HO.out.trans H2.out.2).at_ g))
        refine wpList_copy_B rfl (.tmp 43) (.tmp 44) rfl bb B1.length (4096 - B1.length) (4096 - B1.length) rfl (some ⟨g, o, none⟩) P2.length c2 rfl P2 rfl hrb2 hL (by omega) a (by have := HA.out.2.2.2.2.2.2.2.1; omega) ?_
        have hput := H2.out.1.puts (P2.take a) (by rw [List.length_take]; have := HA.out.2.2.2.2.2.2.2.2; omega) (B1.length + a) (by rw [List.length_take]; omega)
        have N3 : (w2.setCells bb B1.length (bts (P2.take a))).heap[p]? = w2.heap[p]? := heap_setCells _ _ _ _ _ H2.out.1.pbb
        have k3 := H2.out.1.c.same N3
        generalize w2.setCells bb B1.length (bts (P2.take a)) = w3 at hput k3 ⊢
        have d2 : w3.cell? ⟨p, 2, none⟩ = some (.int .i64 B1.length) := k3.cell 2
        have f2 := k3.free 2
        have HP := Lib.hid hput
        clear hL N3 k3 hput hrb2 c1 c2'
        go_wp2_with (go_at_call 42; refine (flush_any HP.out.1 HA.out.2.2.2.2.2.2.1).mono ?_; rintro e w5 ⟨rfl, h5, hC5⟩; have H5 := Lib.hid (And.intro h5 hC5); clear h5 hC5)
        go_roundg 0
        case measure => omega
        case rel =>
          obtain ⟨_, hW, hx, hT, hC, hA2, _, ha, hba⟩ := HA.out
          have hC5 := ((hC.trans (HO.out.chg _)).trans (H2.out.2.chg _)).trans (HP.out.2.trans H5.out.2)
          have hCx := ((HO.out.chg (SW base p bb N)).trans (H2.out.2.chg _)).trans (HP.out.2.trans H5.out.2)
          have hNg := hA2 g o rfl
          have hrbw : RB wr (some ⟨g, o, none⟩) P2 := fun _ => ⟨g, o, rfl, hx⟩
          refine ⟨O1 ++ (B1 ++ P2.take a), [], P2.drop a, some ⟨g, o + a, none⟩, c2 - a, a, ?_, H5.out.1, by rw [List.length_drop], by rw [List.length_drop]; omega, by omega, ?_, (fun g' o' e => by injection e with e; injection e with e _; subst e; exact hNg), by rw [List.length_drop]; omega, by rw [List.length_drop]; omega, rfl, by omega, (fun _ => by rw [List.length_drop]; simp; omega), hC5⟩
          · rw [← hT, List.append_nil]
            simp only [List.append_assoc, List.take_append_drop]
          · exact (hrbw.drop a).same (fun g' o' e _ => by
              injection e with e; injection e with e _; subst e
              exact hCx.block g (hW.nw g hNg.1) (fun e => by rcases e with e | e | e; exact e.2 hNg.1; exact hNg.2.2 e; exact hNg.2.1 e))
end
/-- How a dotWriter's blocks lie. -/
structure DwLay (base p bb t dw : Nat) (N : Nat → Prop) : Prop where
  nt : N t
  nd : N dw
  td : t ≠ dw
  tp : t ≠ p
  tb : t ≠ bb
  dp : dw ≠ p
  db : dw ≠ bb
  bt : base ≤ t
  bd : base ≤ dw
/-- A dotWriter: T has been written, state st. -/
structure Dw (w : World) (base b p bb t dw : Nat) (N : Nat → Prop) (T : List UInt8) (st : Nat) : Prop where
  ww : ∃ O B, O ++ B = T ∧ Wd w base b p bb N O B
  lay : DwLay base p bb t dw N
  tblk : Blk w t #[.pointer (some ⟨p, 0, none⟩), .pointer (some ⟨dw, 0, none⟩)] 74
  dblk : Blk w dw #[.pointer (some ⟨t, 0, none⟩), .int .i64 st] 102
/-- The frame of what a dotWriter does. -/
def SD (base p bb t dw : Nat) (N : Nat → Prop) (k : Nat) : Prop := SW base p bb N k ∨ k = dw ∨ k = t
section
variable {w w' : World} {base b p bb t dw st : Nat} {N : Nat → Prop} {T T' : List UInt8}
theorem DwLay.t_out (h : DwLay base p bb t dw N) : ¬ SW base p bb N t := fun e => by
  rcases e with e | e | e
  · exact e.2 h.nt
  · exact h.tp e
  · exact h.tb e
theorem DwLay.d_out (h : DwLay base p bb t dw N) : ¬ SW base p bb N dw := fun e => by
  rcases e with e | e | e
  · exact e.2 h.nd
  · exact h.dp e
  · exact h.db e
theorem Dw.wrote (h : Dw w base b p bb t dw N T st) (hw : ∃ O B, O ++ B = T' ∧ Wd w' base b p bb N O B) (hC : Chg (SW base p bb N) w w') : Dw w' base b p bb t dw N T' st :=
  ⟨hw, h.lay, h.tblk.same (hC.block t h.tblk.lt h.lay.t_out), h.dblk.same (hC.block dw h.dblk.lt h.lay.d_out)⟩
theorem Wd.turn {O B : List UInt8} (h : Wd w base b p bb N O B) (hs : w'.heap.size = w.heap.size) {j : Nat} (hj : N j) (hp : j ≠ p) (hb : j ≠ bb) (hk : ∀ k, k ≠ j → w'.heap[k]? = w.heap[k]?) : Wd w' base b p bb N O B := by
  obtain ⟨L, h1, h2⟩ := h.row
  exact ⟨h.bf.turn (fun _ _ e => e) (fun k _ hn => hk k (fun e => hn (e ▸ hj))), h.np, h.nbb, h.pbb, h.bp, h.bbb, by rw [hs]; exact h.size, fun k hn => by rw [hs]; exact h.nw k hn, h.c.same (hk p (Ne.symm hp)), ⟨L, h1.same (hk bb (Ne.symm hb)), h2⟩, h.le⟩
theorem Dw.setState (h : Dw w base b p bb t dw N T st) (s2 : Nat) : Dw (w.setCell ⟨dw, 1, none⟩ (.int .i64 s2)) base b p bb t dw N T s2 := by
  have hN : ∀ k, k ≠ dw → (w.setCell ⟨dw, 1, none⟩ (.int .i64 s2)).heap[k]? = w.heap[k]? := fun k hk => Below.heap_setCell _ _ _ _ hk
  obtain ⟨O, B, hT, hW⟩ := h.ww
  exact ⟨⟨O, B, hT, hW.turn (World.size_setCell _ _ _) h.lay.nd h.lay.dp h.lay.db hN⟩, h.lay, h.tblk.same (hN t h.lay.td), h.dblk.set 1 _⟩
theorem dw_byte (h : Dw w base b p bb t dw N T st) (hl : T.length ≤ 140737488355328) (c : UInt8) :
    Calls Tryd.prog 80 #[.pointer (some ⟨p, 0, none⟩), .int .u8 c.toNat] w fun e w' => e = .returned .nilIface ∧ Dw w' base b p bb t dw N (T ++ [c]) st ∧ Chg (SD base p bb t dw N) w w' := by
  obtain ⟨O, B, rfl, hW⟩ := h.ww
  refine (writeByte_any hW (by rw [← List.length_append]; exact hl) c).mono ?_
  rintro e w' ⟨rfl, ⟨O', B', hT, hW'⟩, hC⟩
  exact ⟨rfl, h.wrote ⟨O', B', hT, hW'⟩ hC, hC.sub (fun k _ e => .inl e)⟩
theorem wrun_le' (D : List UInt8) : ∀ s, (wrun s D).length ≤ 3 * D.length := by
  induction D with
  | nil => intro s; simp [wrun]
  | cons c t ih =>
    intro s
    have h1 : (wstep s c).1.length ≤ 3 := by
      unfold wstep
      repeat' split
      all_goals simp
    have := ih (wstep s c).2
    simp only [wrun, List.length_append, List.length_cons]
    omega
theorem byte_ne' {c : UInt8} (d : UInt8) (h : c ≠ d) : ((c.toNat : Int) == (d.toNat : Int)) = false := by
  rw [beq_eq_false_iff_ne]
  exact fun e => h ((byte_eq_iff c d).1 e)
theorem dw_next {D : List UInt8} {k s st : Nat} {c : UInt8} (hc : D[k]? = some c) (hs : s = wlast st (D.take k)) : wrun st (D.take (k + 1)) = wrun st (D.take k) ++ (wstep s c).1 ∧ wlast st (D.take (k + 1)) = (wstep s c).2 := by
  rw [List.take_add_one, hc, wrun_app, wlast_app, ← hs]
  simp [wrun, wlast]
theorem wrun_take_le (D : List UInt8) (st k : Nat) : (wrun st (D.take k)).length ≤ 3 * D.length := by
  have h1 := wrun_le' (D.take k) st
  have h2 : (D.take k).length ≤ D.length := by rw [List.length_take]; omega
  omega
theorem wlast_le3 (D : List UInt8) : ∀ st, st ≤ 3 → wlast st D ≤ 3 := by
  induction D with
  | nil => intro st h; exact h
  | cons c t ih =>
    intro st h
    refine ih _ ?_
    unfold wstep
    repeat' split
    all_goals simp
/-- The loop's relation. -/
def DwRel (base b p bb t dw : Nat) (N : Nat → Prop) (T D : List UInt8) (st : Nat) (w : World) (gk : Nat) (u4 u5 : Value) (wr : World) : Prop :=
  ∃ k : Nat, k + gk = D.length ∧ u4 = .int .i64 k ∧ u5 = .nilIface ∧ Dw wr base b p bb t dw N (T ++ wrun st (D.take k)) (wlast st (D.take k)) ∧ Chg (SD base p bb t dw N) w wr
theorem DwRel.next {D : List UInt8} {s k gk : Nat} {c : UInt8} {T1 T2 : List UInt8} {s2 : Nat} {u4 : Value} (hc : D[k]? = some c) (hs : s = wlast st (D.take k)) (hT1 : T1 = T ++ wrun st (D.take k)) (hw : wstep s c = (T2, s2)) (hk : k + 1 + gk = D.length) (hD : Dw w' base b p bb t dw N (T1 ++ T2) s2) (hC : Chg (SD base p bb t dw N) w w') (hu : u4 = .int .i64 (k + 1 : Nat)) : DwRel base b p bb t dw N T D st w gk u4 .nilIface w' := by
  obtain ⟨h1, h2⟩ := dw_next hc hs
  refine ⟨k + 1, hk, hu, rfl, ?_, hC⟩
  rw [h1, h2, hw, ← List.append_assoc, ← hT1]
  exact hD
set_option maxRecDepth 200000 in
set_option maxHeartbeats 25600000 in
theorem dwWrite_any (h : Dw w base b p bb t dw N T st) (hst : st ≤ 3) {A : Option Addr} {n c : Nat} {D : List UInt8} (hr : RB w A D) (hn : n = D.length) (hA : ∀ g o, A = some ⟨g, o, none⟩ → N g ∧ g ≠ bb ∧ g ≠ p ∧ g ≠ dw ∧ g ≠ t) (hlim : T.length + 3 * D.length + 3 ≤ 140737488355328) :
    Calls Tryd.prog 115 #[.pointer (some ⟨dw, 0, none⟩), .slice A n c] w fun e w' => (∃ v, e = .returned v) ∧ Dw w' base b p bb t dw N (T ++ wrun st D) (wlast st D) ∧ Chg (SD base p bb t dw N) w w' := by
  subst hn
  have a0 : w.cell? ⟨dw, 0, none⟩ = some (.pointer (some ⟨t, 0, none⟩)) := h.dblk.cell 0
  have t0 : w.cell? ⟨t, 0, none⟩ = some (.pointer (some ⟨p, 0, none⟩)) := h.tblk.cell 0
  have H := Lib.hid (And.intro h (And.intro hr hA))
  clear h hr hA
  have hDl : D.length ≤ 140737488355328 := by omega
  go_enter Tryd.func115, Tryd.ntmps115
  go_wp2
  go_loopg [4, 5, 7] D.length (fun gk u4 u5 _ wr => DwRel base b p bb t dw N T D st w gk u4 u5 wr)
  case atStart => exact ⟨0, by omega, rfl, rfl, by rw [List.take_zero]; simpa [wrun, wlast] using H.out.1, Chg.refl _ _⟩
  case round =>
    obtain ⟨k, hk, rfl, rfl, hD, hC⟩ := hrel
    by_cases hlt : k < D.length
    · obtain ⟨c1, hc1⟩ : ∃ c1, D[k]? = some c1 := ⟨_, List.getElem?_eq_getElem hlt⟩
      obtain ⟨g, o, rfl, hx⟩ := H.out.2.1 (by rintro rfl; simp at hlt)
      obtain ⟨hNg, hgb, hgp, hgd, hgt⟩ := H.out.2.2 g o rfl
      have gcell : wr.cell? ⟨g, o + k, none⟩ = some (.int .u8 c1.toNat) := (World.cell?_of_block (w := w) (a := ⟨g, o + k, none⟩) (hC.block g (World.block_lt_of_cell? _ _ (hx k c1 hc1)) (fun e => by
        rcases e with e | e | e
        · rcases e with e | e | e
          · exact e.2 hNg
          · exact hgp e
          · exact hgb e
        · exact hgd e
        · exact hgt e))).trans (hx k c1 hc1)
      have hwl := wrun_take_le D st k
      obtain ⟨s, hs⟩ : ∃ s, s = wlast st (D.take k) := ⟨_, rfl⟩
      obtain ⟨T1, hT1⟩ : ∃ T1, T1 = T ++ wrun st (D.take k) := ⟨_, rfl⟩
      have hs3 : s ≤ 3 := by rw [hs]; exact wlast_le3 _ _ hst
      have hl1 : T1.length + 3 ≤ 140737488355328 := by rw [hT1, List.length_append]; omega
      rw [← hs, ← hT1] at hD
      have a1 : wr.cell? ⟨dw, 1, none⟩ = some (.int .i64 s) := hD.dblk.cell 1
      have f1 := hD.dblk.free 1
      have HK := Lib.hid (And.intro hc1 (And.intro hs (And.intro hT1 hC)))
      clear hx hwl hC
      rcases (show s = 0 ∨ s = 1 ∨ s = 2 ∨ s = 3 by omega) with rfl | rfl | rfl | rfl
      · -- state 0
        by_cases h46 : c1 = 46
        · subst h46
          have HD0 := Lib.hid hD
          clear hD hc1 hs hT1 hs3
          have HB0 := Lib.hid (And.intro (dw_byte (HD0.out.setState 3) (by omega) 46) (HK.out.2.2.2.setCell (p := ⟨dw, 1, none⟩) (fun _ => .inr (.inl rfl)) (.int .i64 3)))
          go_wp2_with (go_at_call 80; refine HB0.out.1.mono ?_; rintro e w1 ⟨rfl, hD1, hC1⟩; have e1 := hD1.dblk.cell 1; have fe1 := hD1.dblk.free 1; have HB1 := Lib.hid (And.intro (dw_byte hD1 (by simp only [List.length_append, List.length_cons, List.length_nil]; omega) 46) (HB0.out.2.trans hC1)); replace e1 : w1.cell? ⟨dw, 1, none⟩ = some (.int .i64 3) := e1; clear hD1 hC1; refine Hid.out ?_)
          refine Lib.hid ?_
          go_wp2_with (go_at_call 80; refine HB1.out.1.mono ?_; rintro e w2 ⟨rfl, hD2, hC2⟩; have HF := Lib.hid (And.intro hD2 (HB1.out.2.trans hC2)); clear hD2 hC2; refine Hid.out ?_)
          refine Lib.hid ?_
          go_wp2
          go_roundg (gk - 1)
          case measure => omega
          case rel =>
            have hD := HF.out.1
            rw [List.append_assoc] at hD
            exact DwRel.next (s := 0) (T2 := [46, 46]) (s2 := 3) HK.out.1 HK.out.2.1 HK.out.2.2.1 (by rfl) (by omega) hD HF.out.2 (by go_num)
        by_cases h13 : c1 = 13
        · subst h13
          have HD0 := Lib.hid hD
          clear hD hc1 hs hT1 hs3
          have HB0 := Lib.hid (And.intro (dw_byte ((HD0.out.setState 3).setState 2) (by omega) 13) ((HK.out.2.2.2.setCell (p := ⟨dw, 1, none⟩) (fun _ => .inr (.inl rfl)) (.int .i64 3)).setCell (p := ⟨dw, 1, none⟩) (fun _ => .inr (.inl rfl)) (.int .i64 2)))
          go_wp2_with (go_at_call 80; refine HB0.out.1.mono ?_; rintro e w1 ⟨rfl, hD1, hC1⟩; have HF := Lib.hid (And.intro hD1 (HB0.out.2.trans hC1)); clear hD1 hC1; refine Hid.out ?_)
          refine Lib.hid ?_
          go_wp2
          go_roundg (gk - 1)
          case measure => omega
          case rel =>
            have hD := HF.out.1
            exact DwRel.next (s := 0) (T2 := [13]) (s2 := 2) HK.out.1 HK.out.2.1 HK.out.2.2.1 (by rfl) (by omega) hD HF.out.2 (by go_num)
        by_cases h10 : c1 = 10
        · subst h10
          have HD0 := Lib.hid hD
          clear hD hc1 hs hT1 hs3
          have HB0 := Lib.hid (And.intro (dw_byte (HD0.out.setState 3) (by omega) 13) (HK.out.2.2.2.setCell (p := ⟨dw, 1, none⟩) (fun _ => .inr (.inl rfl)) (.int .i64 3)))
          go_wp2_with (go_at_call 80; refine HB0.out.1.mono ?_; rintro e w1 ⟨rfl, hD1, hC1⟩; have e1 := hD1.dblk.cell 1; have fe1 := hD1.dblk.free 1; have HB1 := Lib.hid (And.intro (dw_byte (hD1.setState 1) (by simp only [List.length_append, List.length_cons, List.length_nil]; omega) 10) ((HB0.out.2.trans hC1).setCell (p := ⟨dw, 1, none⟩) (fun _ => .inr (.inl rfl)) (.int .i64 1))); replace e1 : w1.cell? ⟨dw, 1, none⟩ = some (.int .i64 3) := e1; clear hD1 hC1; refine Hid.out ?_)
          refine Lib.hid ?_
          go_wp2_with (go_at_call 80; refine HB1.out.1.mono ?_; rintro e w2 ⟨rfl, hD2, hC2⟩; have HF := Lib.hid (And.intro hD2 (HB1.out.2.trans hC2)); clear hD2 hC2; refine Hid.out ?_)
          refine Lib.hid ?_
          go_wp2
          go_roundg (gk - 1)
          case measure => omega
          case rel =>
            have hD := HF.out.1
            rw [List.append_assoc] at hD
            exact DwRel.next (s := 0) (T2 := [13, 10]) (s2 := 1) HK.out.1 HK.out.2.1 HK.out.2.2.1 (by rfl) (by omega) hD HF.out.2 (by go_num)
        have n46 : ((c1.toNat : Int) == 46) = false := byte_ne' 46 h46
        have n13 : ((c1.toNat : Int) == 13) = false := byte_ne' 13 h13
        have n10 : ((c1.toNat : Int) == 10) = false := byte_ne' 10 h10
        have HN := Lib.hid (And.intro h46 (And.intro h13 h10))
        clear h46 h13 h10
        have HD0 := Lib.hid hD
        clear hD hc1 hs hT1 hs3
        have HB0 := Lib.hid (And.intro (dw_byte (HD0.out.setState 3) (by omega) c1) (HK.out.2.2.2.setCell (p := ⟨dw, 1, none⟩) (fun _ => .inr (.inl rfl)) (.int .i64 3)))
        go_wp2_with (go_at_call 80; refine HB0.out.1.mono ?_; rintro e w1 ⟨rfl, hD1, hC1⟩; have HF := Lib.hid (And.intro hD1 (HB0.out.2.trans hC1)); clear hD1 hC1; refine Hid.out ?_)
        refine Lib.hid ?_
        go_wp2
        go_roundg (gk - 1)
        case measure => omega
        case rel =>
          have hD := HF.out.1
          exact DwRel.next (s := 0) (T2 := [c1]) (s2 := 3) HK.out.1 HK.out.2.1 HK.out.2.2.1 (by simp [wstep, HN.out.1, HN.out.2.1, HN.out.2.2]) (by omega) hD HF.out.2 (by go_num)
      · -- state 1
        by_cases h46 : c1 = 46
        · subst h46
          have HD0 := Lib.hid hD
          clear hD hc1 hs hT1 hs3
          have HB0 := Lib.hid (And.intro (dw_byte (HD0.out.setState 3) (by omega) 46) (HK.out.2.2.2.setCell (p := ⟨dw, 1, none⟩) (fun _ => .inr (.inl rfl)) (.int .i64 3)))
          go_wp2_with (go_at_call 80; refine HB0.out.1.mono ?_; rintro e w1 ⟨rfl, hD1, hC1⟩; have e1 := hD1.dblk.cell 1; have fe1 := hD1.dblk.free 1; have HB1 := Lib.hid (And.intro (dw_byte hD1 (by simp only [List.length_append, List.length_cons, List.length_nil]; omega) 46) (HB0.out.2.trans hC1)); replace e1 : w1.cell? ⟨dw, 1, none⟩ = some (.int .i64 3) := e1; clear hD1 hC1; refine Hid.out ?_)
          refine Lib.hid ?_
          go_wp2_with (go_at_call 80; refine HB1.out.1.mono ?_; rintro e w2 ⟨rfl, hD2, hC2⟩; have HF := Lib.hid (And.intro hD2 (HB1.out.2.trans hC2)); clear hD2 hC2; refine Hid.out ?_)
          refine Lib.hid ?_
          go_wp2
          go_roundg (gk - 1)
          case measure => omega
          case rel =>
            have hD := HF.out.1
            rw [List.append_assoc] at hD
            exact DwRel.next (s := 1) (T2 := [46, 46]) (s2 := 3) HK.out.1 HK.out.2.1 HK.out.2.2.1 (by rfl) (by omega) hD HF.out.2 (by go_num)
        by_cases h13 : c1 = 13
        · subst h13
          have HD0 := Lib.hid hD
          clear hD hc1 hs hT1 hs3
          have HB0 := Lib.hid (And.intro (dw_byte ((HD0.out.setState 3).setState 2) (by omega) 13) ((HK.out.2.2.2.setCell (p := ⟨dw, 1, none⟩) (fun _ => .inr (.inl rfl)) (.int .i64 3)).setCell (p := ⟨dw, 1, none⟩) (fun _ => .inr (.inl rfl)) (.int .i64 2)))
          go_wp2_with (go_at_call 80; refine HB0.out.1.mono ?_; rintro e w1 ⟨rfl, hD1, hC1⟩; have HF := Lib.hid (And.intro hD1 (HB0.out.2.trans hC1)); clear hD1 hC1; refine Hid.out ?_)
          refine Lib.hid ?_
          go_wp2
          go_roundg (gk - 1)
          case measure => omega
          case rel =>
            have hD := HF.out.1
            exact DwRel.next (s := 1) (T2 := [13]) (s2 := 2) HK.out.1 HK.out.2.1 HK.out.2.2.1 (by rfl) (by omega) hD HF.out.2 (by go_num)
        by_cases h10 : c1 = 10
        · subst h10
          have HD0 := Lib.hid hD
          clear hD hc1 hs hT1 hs3
          have HB0 := Lib.hid (And.intro (dw_byte (HD0.out.setState 3) (by omega) 13) (HK.out.2.2.2.setCell (p := ⟨dw, 1, none⟩) (fun _ => .inr (.inl rfl)) (.int .i64 3)))
          go_wp2_with (go_at_call 80; refine HB0.out.1.mono ?_; rintro e w1 ⟨rfl, hD1, hC1⟩; have e1 := hD1.dblk.cell 1; have fe1 := hD1.dblk.free 1; have HB1 := Lib.hid (And.intro (dw_byte (hD1.setState 1) (by simp only [List.length_append, List.length_cons, List.length_nil]; omega) 10) ((HB0.out.2.trans hC1).setCell (p := ⟨dw, 1, none⟩) (fun _ => .inr (.inl rfl)) (.int .i64 1))); replace e1 : w1.cell? ⟨dw, 1, none⟩ = some (.int .i64 3) := e1; clear hD1 hC1; refine Hid.out ?_)
          refine Lib.hid ?_
          go_wp2_with (go_at_call 80; refine HB1.out.1.mono ?_; rintro e w2 ⟨rfl, hD2, hC2⟩; have HF := Lib.hid (And.intro hD2 (HB1.out.2.trans hC2)); clear hD2 hC2; refine Hid.out ?_)
          refine Lib.hid ?_
          go_wp2
          go_roundg (gk - 1)
          case measure => omega
          case rel =>
            have hD := HF.out.1
            rw [List.append_assoc] at hD
            exact DwRel.next (s := 1) (T2 := [13, 10]) (s2 := 1) HK.out.1 HK.out.2.1 HK.out.2.2.1 (by rfl) (by omega) hD HF.out.2 (by go_num)
        have n46 : ((c1.toNat : Int) == 46) = false := byte_ne' 46 h46
        have n13 : ((c1.toNat : Int) == 13) = false := byte_ne' 13 h13
        have n10 : ((c1.toNat : Int) == 10) = false := byte_ne' 10 h10
        have HN := Lib.hid (And.intro h46 (And.intro h13 h10))
        clear h46 h13 h10
        have HD0 := Lib.hid hD
        clear hD hc1 hs hT1 hs3
        have HB0 := Lib.hid (And.intro (dw_byte (HD0.out.setState 3) (by omega) c1) (HK.out.2.2.2.setCell (p := ⟨dw, 1, none⟩) (fun _ => .inr (.inl rfl)) (.int .i64 3)))
        go_wp2_with (go_at_call 80; refine HB0.out.1.mono ?_; rintro e w1 ⟨rfl, hD1, hC1⟩; have HF := Lib.hid (And.intro hD1 (HB0.out.2.trans hC1)); clear hD1 hC1; refine Hid.out ?_)
        refine Lib.hid ?_
        go_wp2
        go_roundg (gk - 1)
        case measure => omega
        case rel =>
          have hD := HF.out.1
          exact DwRel.next (s := 1) (T2 := [c1]) (s2 := 3) HK.out.1 HK.out.2.1 HK.out.2.2.1 (by simp [wstep, HN.out.1, HN.out.2.1, HN.out.2.2]) (by omega) hD HF.out.2 (by go_num)
      · -- state 2
        by_cases h10 : c1 = 10
        · subst h10
          have HD0 := Lib.hid hD
          clear hD hc1 hs hT1 hs3
          have HB0 := Lib.hid (And.intro (dw_byte ((HD0.out.setState 3).setState 1) (by omega) 10) ((HK.out.2.2.2.setCell (p := ⟨dw, 1, none⟩) (fun _ => .inr (.inl rfl)) (.int .i64 3)).setCell (p := ⟨dw, 1, none⟩) (fun _ => .inr (.inl rfl)) (.int .i64 1)))
          go_wp2_with (go_at_call 80; refine HB0.out.1.mono ?_; rintro e w1 ⟨rfl, hD1, hC1⟩; have HF := Lib.hid (And.intro hD1 (HB0.out.2.trans hC1)); clear hD1 hC1; refine Hid.out ?_)
          refine Lib.hid ?_
          go_wp2
          go_roundg (gk - 1)
          case measure => omega
          case rel =>
            have hD := HF.out.1
            exact DwRel.next (s := 2) (T2 := [10]) (s2 := 1) HK.out.1 HK.out.2.1 HK.out.2.2.1 (by rfl) (by omega) hD HF.out.2 (by go_num)
        have n10 : ((c1.toNat : Int) == 10) = false := byte_ne' 10 h10
        have HN := Lib.hid h10
        clear h10
        have HD0 := Lib.hid hD
        clear hD hc1 hs hT1 hs3
        have HB0 := Lib.hid (And.intro (dw_byte (HD0.out.setState 3) (by omega) c1) (HK.out.2.2.2.setCell (p := ⟨dw, 1, none⟩) (fun _ => .inr (.inl rfl)) (.int .i64 3)))
        go_wp2_with (go_at_call 80; refine HB0.out.1.mono ?_; rintro e w1 ⟨rfl, hD1, hC1⟩; have HF := Lib.hid (And.intro hD1 (HB0.out.2.trans hC1)); clear hD1 hC1; refine Hid.out ?_)
        refine Lib.hid ?_
        go_wp2
        go_roundg (gk - 1)
        case measure => omega
        case rel =>
          have hD := HF.out.1
          exact DwRel.next (s := 2) (T2 := [c1]) (s2 := 3) HK.out.1 HK.out.2.1 HK.out.2.2.1 (by simp [wstep, HN.out]) (by omega) hD HF.out.2 (by go_num)
      · -- state 3
        by_cases h13 : c1 = 13
        · subst h13
          have HD0 := Lib.hid hD
          clear hD hc1 hs hT1 hs3
          have HB0 := Lib.hid (And.intro (dw_byte (HD0.out.setState 2) (by omega) 13) (HK.out.2.2.2.setCell (p := ⟨dw, 1, none⟩) (fun _ => .inr (.inl rfl)) (.int .i64 2)))
          go_wp2_with (go_at_call 80; refine HB0.out.1.mono ?_; rintro e w1 ⟨rfl, hD1, hC1⟩; have HF := Lib.hid (And.intro hD1 (HB0.out.2.trans hC1)); clear hD1 hC1; refine Hid.out ?_)
          refine Lib.hid ?_
          go_wp2
          go_roundg (gk - 1)
          case measure => omega
          case rel =>
            have hD := HF.out.1
            exact DwRel.next (s := 3) (T2 := [13]) (s2 := 2) HK.out.1 HK.out.2.1 HK.out.2.2.1 (by rfl) (by omega) hD HF.out.2 (by go_num)
        by_cases h10 : c1 = 10
        · subst h10
          have HD0 := Lib.hid hD
          clear hD hc1 hs hT1 hs3
          have HB0 := Lib.hid (And.intro (dw_byte HD0.out (by omega) 13) HK.out.2.2.2)
          go_wp2_with (go_at_call 80; refine HB0.out.1.mono ?_; rintro e w1 ⟨rfl, hD1, hC1⟩; have e1 := hD1.dblk.cell 1; have fe1 := hD1.dblk.free 1; have HB1 := Lib.hid (And.intro (dw_byte (hD1.setState 1) (by simp only [List.length_append, List.length_cons, List.length_nil]; omega) 10) ((HB0.out.2.trans hC1).setCell (p := ⟨dw, 1, none⟩) (fun _ => .inr (.inl rfl)) (.int .i64 1))); replace e1 : w1.cell? ⟨dw, 1, none⟩ = some (.int .i64 3) := e1; clear hD1 hC1; refine Hid.out ?_)
          refine Lib.hid ?_
          go_wp2_with (go_at_call 80; refine HB1.out.1.mono ?_; rintro e w2 ⟨rfl, hD2, hC2⟩; have HF := Lib.hid (And.intro hD2 (HB1.out.2.trans hC2)); clear hD2 hC2; refine Hid.out ?_)
          refine Lib.hid ?_
          go_wp2
          go_roundg (gk - 1)
          case measure => omega
          case rel =>
            have hD := HF.out.1
            rw [List.append_assoc] at hD
            exact DwRel.next (s := 3) (T2 := [13, 10]) (s2 := 1) HK.out.1 HK.out.2.1 HK.out.2.2.1 (by rfl) (by omega) hD HF.out.2 (by go_num)
        have n13 : ((c1.toNat : Int) == 13) = false := byte_ne' 13 h13
        have n10 : ((c1.toNat : Int) == 10) = false := byte_ne' 10 h10
        have HN := Lib.hid (And.intro h13 h10)
        clear h13 h10
        have HD0 := Lib.hid hD
        clear hD hc1 hs hT1 hs3
        have HB0 := Lib.hid (And.intro (dw_byte HD0.out (by omega) c1) HK.out.2.2.2)
        go_wp2_with (go_at_call 80; refine HB0.out.1.mono ?_; rintro e w1 ⟨rfl, hD1, hC1⟩; have HF := Lib.hid (And.intro hD1 (HB0.out.2.trans hC1)); clear hD1 hC1; refine Hid.out ?_)
        refine Lib.hid ?_
        go_wp2
        go_roundg (gk - 1)
        case measure => omega
        case rel =>
          have hD := HF.out.1
          exact DwRel.next (s := 3) (T2 := [c1]) (s2 := 3) HK.out.1 HK.out.2.1 HK.out.2.2.1 (by simp [wstep, HN.out.1, HN.out.2]) (by omega) hD HF.out.2 (by go_num)
    · have htk : D.take k = D := List.take_of_length_le (by omega)
      rw [htk] at hD
      have hki : ¬ (k : Int) < (D.length : Int) := by omega
      have HE := Lib.hid (And.intro hD hC)
      clear hD hC htk
      go_wp2
      go_ret2
      exact ⟨⟨_, rfl⟩, HE.out.1, HE.out.2⟩
end
/-- T has been written. -/
def WW (w : World) (base b p bb : Nat) (N : Nat → Prop) (T : List UInt8) : Prop := ∃ O B, O ++ B = T ∧ Wd w base b p bb N O B
section
variable {w w' : World} {base b p bb t dw st : Nat} {N N' : Nat → Prop} {T T' O B : List UInt8}
theorem SW.less (hN : ∀ k, N k → N' k) {k : Nat} (h : SW base p bb N' k) : SW base p bb N k := by
  rcases h with h | h | h
  · exact .inl ⟨h.1, fun e => h.2 (hN k e)⟩
  · exact .inr (.inl h)
  · exact .inr (.inr h)
theorem Wd.less (h : Wd w base b p bb N' O B) (hN : ∀ k, N k → N' k) (hp : N p) (hb : N bb) : Wd w base b p bb N O B :=
  ⟨h.bf.turn (fun k _ e => hN k e) (fun _ _ _ => rfl), hp, hb, h.pbb, h.bp, h.bbb, h.size, fun k e => h.nw k (hN k e), h.c, h.row, h.le⟩
theorem Wd.more (h : Wd w base b p bb N O B) (hb : Below w.heap.size w w') (hN : ∀ k, N k → N' k) (hN2 : ∀ k, k < w.heap.size → N' k → N k) (hnw : ∀ k, N' k → k < w'.heap.size) : Wd w' base b p bb N' O B := by
  obtain ⟨L, h1, h2⟩ := h.row
  exact ⟨h.bf.turn hN2 (fun k hk _ => hb.block k hk), hN p h.np, hN bb h.nbb, h.pbb, h.bp, h.bbb, Nat.le_trans h.size hb.size, hnw, h.c.same (hb.block p (h.nw p h.np)), ⟨L, h1.same (hb.block bb (h.nw bb h.nbb)), h2⟩, h.le⟩
theorem ww_byte (h : WW w base b p bb N T) (hl : T.length ≤ 140737488355328) (c : UInt8) :
    Calls Tryd.prog 80 #[.pointer (some ⟨p, 0, none⟩), .int .u8 c.toNat] w fun e w' => e = .returned .nilIface ∧ WW w' base b p bb N (T ++ [c]) ∧ Chg (SW base p bb N) w w' := by
  obtain ⟨O, B, rfl, hW⟩ := h
  refine (writeByte_any hW (by rw [← List.length_append]; exact hl) c).mono ?_
  rintro e w' ⟨rfl, h1, h2⟩
  exact ⟨rfl, h1, h2⟩
theorem RB.dot (w : World) (t : TypeId) : RB (w.alloc (.cells #[.int .u8 46, .int .u8 13, .int .u8 10] t)) (some ⟨w.heap.size, 0, none⟩) [46, 13, 10] := by
  intro _
  refine ⟨_, _, rfl, fun i u hu => ?_⟩
  rcases i with _ | _ | _ | i
  · simp at hu; subst hu; simp
  · simp at hu; subst hu; simp
  · simp at hu; subst hu; simp
  · simp at hu
theorem ww_shut (h : WW w base b p bb N T) (hl : T.length + 3 ≤ 140737488355328) (ty : TypeId) :
    Calls Tryd.prog 81 #[.pointer (some ⟨p, 0, none⟩), .slice (some ⟨w.heap.size, 0, none⟩) 3 3] (w.alloc (.cells #[.int .u8 46, .int .u8 13, .int .u8 10] ty)) fun e w' => (∃ v, e = .returned v) ∧ WW w' base b p bb N (T ++ [46, 13, 10]) ∧ Chg (SW base p bb N) w w' := by
  obtain ⟨O, B, rfl, hW⟩ := h
  have hb : Below w.heap.size w (w.alloc (.cells #[.int .u8 46, .int .u8 13, .int .u8 10] ty)) := (Below.refl _ _).alloc (Nat.le_refl _) _
  have hsz : (w.alloc (.cells #[.int .u8 46, .int .u8 13, .int .u8 10] ty)).heap.size = w.heap.size + 1 := World.size_alloc _ _
  have hW' : Wd (w.alloc (.cells #[.int .u8 46, .int .u8 13, .int .u8 10] ty)) base b p bb (fun k => N k ∨ k = w.heap.size) O B := hW.more hb (fun _ e => .inl e) (fun k hk e => by
    rcases e with e | e
    · exact e
    · omega) (fun k e => by
    rw [hsz]
    rcases e with e | e
    · have := hW.nw k e; omega
    · omega)
  refine (wwrite_any hW' (P := [46, 13, 10]) (c := 3) (RB.dot w ty) rfl (by decide) (by decide) (fun g o e => by
    injection e with e; injection e with e _; subst e
    exact ⟨.inr rfl, by have := hW.nw bb hW.nbb; omega, by have := hW.nw p hW.np; omega⟩) (by decide) (by decide) (by simp; simp at hl; omega)).mono ?_
  rintro e w' ⟨h1, ⟨O', B', hT, h2⟩, h3⟩
  exact ⟨h1, ⟨O', B', hT, h2.less (fun _ e => .inl e) hW.np hW.nbb⟩, ((Chg.refl _ w).alloc _).trans (h3.sub (fun k _ e => SW.less (fun _ e => .inl e) e))⟩
theorem ww_flush (h : WW w base b p bb N T) (hl : T.length ≤ 140737488355328) :
    Calls Tryd.prog 42 #[.pointer (some ⟨p, 0, none⟩)] w fun e w' => e = .returned .nilIface ∧ Wd w' base b p bb N T [] ∧ Chg (SW base p bb N) w w' := by
  obtain ⟨O, B, rfl, hW⟩ := h
  exact flush_any hW (by rw [← List.length_append]; exact hl)
end
theorem Tryd.dwInfo : ∃ j, Tryd.prog.info? 102 = some j := Option.isSome_iff_exists.1 (show (Tryd.prog.info? 102).isSome = true by kernel_rfl)
theorem Tryd.eqDw (a : Addr) (w : World) : (binOp .eql 72 (.pointer (some a)) (.pointer (some a))).run Tryd.prog w = .ok (.bool true) w := by
  obtain ⟨j, hj⟩ := Tryd.dwInfo
  exact run_eql_ptr_same w a Tryd.underlying72 hj
/-- What Close leaves. -/
def DwShut (base b p bb t dw : Nat) (N : Nat → Prop) (T : List UInt8) (w : World) (e : Ending) (w' : World) : Prop :=
  (∃ v, e = .returned v) ∧ Wd w' base b p bb N T [] ∧ w'.cell? ⟨t, 0, none⟩ = some (.pointer (some ⟨p, 0, none⟩)) ∧ Chg (SD base p bb t dw N) w w'
theorem Dw.shut {w : World} {base b p bb t dw st : Nat} {N : Nat → Prop} {T : List UInt8} (h : Dw w base b p bb t dw N T st) : WW (w.setCell ⟨t, 1, none⟩ (.pointer none)) base b p bb N T := by
  obtain ⟨O, B, hT, hW⟩ := h.ww
  exact ⟨O, B, hT, hW.turn (World.size_setCell _ _ _) h.lay.nt h.lay.tp h.lay.tb (fun k hk => Below.heap_setCell _ _ _ _ hk)⟩
set_option maxRecDepth 200000 in
set_option maxHeartbeats 12800000 in
theorem dwClose_any {w : World} {base b p bb t dw st : Nat} {N : Nat → Prop} {T : List UInt8} (h : Dw w base b p bb t dw N T st) (hst : st ≤ 3) (hl : T.length + 8 ≤ 140737488355328) :
    Calls Tryd.prog 69 #[.pointer (some ⟨dw, 0, none⟩)] w (DwShut base b p bb t dw N (T ++ wshut st) w) := by
  have a0 : w.cell? ⟨dw, 0, none⟩ = some (.pointer (some ⟨t, 0, none⟩)) := h.dblk.cell 0
  have a1 : w.cell? ⟨dw, 1, none⟩ = some (.int .i64 st) := h.dblk.cell 1
  have t0 : w.cell? ⟨t, 0, none⟩ = some (.pointer (some ⟨p, 0, none⟩)) := h.tblk.cell 0
  have t1 : w.cell? ⟨t, 1, none⟩ = some (.pointer (some ⟨dw, 0, none⟩)) := h.tblk.cell 1
  have ft := h.tblk.free 1
  have htd : ¬ t = dw := h.lay.td
  have hdt : ¬ dw = t := Ne.symm h.lay.td
  have heq := Tryd.eqDw ⟨dw, 0, none⟩
  have hN : N t := h.lay.nt
  have hto := h.lay.t_out
  have htk := h.tblk.set 1 (.pointer none)
  have H := Lib.hid (And.intro h.shut (And.intro hN (And.intro hto htk)))
  have HC := Lib.hid (((Chg.refl (SD base p bb t dw N) w).setCell (p := ⟨t, 1, none⟩) (fun _ => .inr (.inr rfl)) (.pointer none)))
  have hend : ∀ (T2 : List UInt8) (w5 w6 : World) (v : Value), Chg (SW base p bb N) (w.setCell ⟨t, 1, none⟩ (.pointer none)) w5 → Wd w6 base b p bb N T2 [] → Chg (SW base p bb N) w5 w6 → T2 = T ++ wshut st → DwShut base b p bb t dw N (T ++ wshut st) w (.returned v) w6 := by
    rintro T2 w5 w6 v hc1 hW hc2 rfl
    have hc := hc1.trans hc2
    exact ⟨⟨_, rfl⟩, hW, (World.cell?_of_block (w := w.setCell ⟨t, 1, none⟩ (.pointer none)) (a := ⟨t, 0, none⟩) (hc.block t htk.lt hto)).trans (htk.cell 0), HC.out.trans (hc.sub (fun k _ e => .inl e))⟩
  have HE := Lib.hid hend
  clear h hN hto htk hend
  rcases (show st = 0 ∨ st = 1 ∨ st = 2 ∨ st = 3 by omega) with rfl | rfl | rfl | rfl
  · have HB := Lib.hid (ww_byte H.out.1 (by omega) 13)
    go_enter Tryd.func69, Tryd.ntmps69
    go_wp2_with (go_at_call 80; refine HB.out.mono ?_; rintro e w1 ⟨rfl, h1, hC1⟩; have H1 := Lib.hid (And.intro h1 hC1); have HB1 := Lib.hid (ww_byte h1 (by simp; omega) 10); clear h1 hC1; refine Hid.out ?_)
    refine Lib.hid ?_
    go_wp2_with (go_at_call 80; refine HB1.out.mono ?_; rintro e w2 ⟨rfl, h2, hC2⟩; have H2 := Lib.hid (And.intro h2 (H1.out.2.trans hC2)); have HB2 := Lib.hid (ww_shut h2 (by simp; omega) 5); clear h2 hC2; refine Hid.out ?_)
    refine Lib.hid ?_
    go_wp2_with (first
      | (go_at_call 81; refine HB2.out.mono ?_; rintro e w3 ⟨⟨v, rfl⟩, h3, hC3⟩; have H3 := Lib.hid (And.intro h3 (H2.out.2.trans hC3)); have HB3 := Lib.hid (ww_flush h3 (by simp; omega)); clear h3 hC3)
      | (go_at_call 42; refine HB3.out.mono ?_; rintro e w4 ⟨rfl, h4, hC4⟩; have H4 := Lib.hid (And.intro h4 hC4); clear h4 hC4))
    go_ret
    exact HE.out _ _ _ _ H3.out.2 H4.out.1 H4.out.2 (by simp [wshut])
  · have hb2 := ww_shut H.out.1 (by omega) 5
    rw [World.size_setCell] at hb2
    have HB2 := Lib.hid hb2
    clear hb2
    go_enter Tryd.func69, Tryd.ntmps69
    go_wp2_with (first
      | (go_at_call 81; refine HB2.out.mono ?_; rintro e w3 ⟨⟨v, rfl⟩, h3, hC3⟩; have H3 := Lib.hid (And.intro h3 hC3); have HB3 := Lib.hid (ww_flush h3 (by simp; omega)); clear h3 hC3)
      | (go_at_call 42; refine HB3.out.mono ?_; rintro e w4 ⟨rfl, h4, hC4⟩; have H4 := Lib.hid (And.intro h4 hC4); clear h4 hC4))
    go_ret
    exact HE.out _ _ _ _ H3.out.2 H4.out.1 H4.out.2 (by simp [wshut])
  · have HB := Lib.hid (ww_byte H.out.1 (by omega) 10)
    go_enter Tryd.func69, Tryd.ntmps69
    go_wp2_with (go_at_call 80; refine HB.out.mono ?_; rintro e w2 ⟨rfl, h2, hC2⟩; have H2 := Lib.hid (And.intro h2 hC2); have HB2 := Lib.hid (ww_shut h2 (by simp; omega) 5); clear h2 hC2; refine Hid.out ?_)
    refine Lib.hid ?_
    go_wp2_with (first
      | (go_at_call 81; refine HB2.out.mono ?_; rintro e w3 ⟨⟨v, rfl⟩, h3, hC3⟩; have H3 := Lib.hid (And.intro h3 (H2.out.2.trans hC3)); have HB3 := Lib.hid (ww_flush h3 (by simp; omega)); clear h3 hC3)
      | (go_at_call 42; refine HB3.out.mono ?_; rintro e w4 ⟨rfl, h4, hC4⟩; have H4 := Lib.hid (And.intro h4 hC4); clear h4 hC4))
    go_ret
    exact HE.out _ _ _ _ H3.out.2 H4.out.1 H4.out.2 (by simp [wshut])
  · have HB := Lib.hid (ww_byte H.out.1 (by omega) 13)
    go_enter Tryd.func69, Tryd.ntmps69
    go_wp2_with (go_at_call 80; refine HB.out.mono ?_; rintro e w1 ⟨rfl, h1, hC1⟩; have H1 := Lib.hid (And.intro h1 hC1); have HB1 := Lib.hid (ww_byte h1 (by simp; omega) 10); clear h1 hC1; refine Hid.out ?_)
    refine Lib.hid ?_
    go_wp2_with (go_at_call 80; refine HB1.out.mono ?_; rintro e w2 ⟨rfl, h2, hC2⟩; have H2 := Lib.hid (And.intro h2 (H1.out.2.trans hC2)); have HB2 := Lib.hid (ww_shut h2 (by simp; omega) 5); clear h2 hC2; refine Hid.out ?_)
    refine Lib.hid ?_
    go_wp2_with (first
      | (go_at_call 81; refine HB2.out.mono ?_; rintro e w3 ⟨⟨v, rfl⟩, h3, hC3⟩; have H3 := Lib.hid (And.intro h3 (H2.out.2.trans hC3)); have HB3 := Lib.hid (ww_flush h3 (by simp; omega)); clear h3 hC3)
      | (go_at_call 42; refine HB3.out.mono ?_; rintro e w4 ⟨rfl, h4, hC4⟩; have H4 := Lib.hid (And.intro h4 hC4); clear h4 hC4))
    go_ret
    exact HE.out _ _ _ _ H3.out.2 H4.out.1 H4.out.2 (by simp [wshut])
theorem assertW (v : Value) (w : World) : (Instr.typeAssert (.iface 63 v) 99 61 true).run Tryd.prog w = .ok (.tuple #[.pointer none, .bool false]) w :=
  run_assert_not Tryd.underlying61 (fun _ h => by cases h) (by decide) (by kernel_rfl) w
theorem newWriter_any {w : World} {b : Nat} :
    Calls Tryd.prog 40 #[.iface 63 (.pointer (some ⟨b, 0, none⟩))] w fun e w' => e = .returned (.pointer (some ⟨w.heap.size + 1, 0, none⟩)) ∧ w' = (w.alloc (.cells (zeroRow 4096) 5)).alloc (.cells (wcells b w.heap.size 0) 104) := by
  have hmk : ∀ w, (Instr.makeSlice 24 (.int .i64 4096) (.int .i64 4096)).run Tryd.prog w = .ok (.slice (some ⟨w.heap.size, 0, none⟩) 4096 4096) (w.alloc (.cells (zeroRow 4096) 5)) := fun w => Tryd.mkB 4096 (by decide) w
  have ha := fun v w => assertW v w
  go_enter Tryd.func40, Tryd.ntmps40
  go_wp2
  go_ret
  exact ⟨rfl, rfl⟩
theorem newTpWriter_any {w : World} {p : Nat} :
    Calls Tryd.prog 39 #[.pointer (some ⟨p, 0, none⟩)] w fun e w' => e = .returned (.pointer (some ⟨w.heap.size, 0, none⟩)) ∧ w' = w.alloc (.cells #[.pointer (some ⟨p, 0, none⟩), .pointer none] 74) := by
  go_enter Tryd.func39, Tryd.ntmps39
  go_wp2
  go_ret
  exact ⟨rfl, rfl⟩
theorem dotWriter_any {w : World} {t p : Nat} (h : Blk w t #[.pointer (some ⟨p, 0, none⟩), .pointer none] 74) :
    Calls Tryd.prog 41 #[.pointer (some ⟨t, 0, none⟩)] w fun e w' => e = .returned (.iface 72 (.pointer (some ⟨w.heap.size, 0, none⟩))) ∧ w' = (w.setCell ⟨t, 1, none⟩ (.pointer (some ⟨w.heap.size, 0, none⟩))).alloc (.cells #[.pointer (some ⟨t, 0, none⟩), .int .i64 0] 102) := by
  have c1 : w.cell? ⟨t, 1, none⟩ = some (.pointer none) := h.cell 1
  have hl := h.lt
  have c2 : ∀ o, (w.alloc o).cell? ⟨t, 1, none⟩ = some (.pointer none) := fun o => (World.cell?_of_block (a := ⟨t, 1, none⟩) (Below.heap_alloc w o t hl)).trans c1
  have f2 : ∀ o, (w.alloc o).frozen? ⟨t, 1, none⟩ = false := fun o => (World.frozen?_of_block (a := ⟨t, 1, none⟩) (Below.heap_alloc w o t hl)).trans (h.free 1)
  clear h
  go_enter Tryd.func41, Tryd.ntmps41
  go_wp2
  go_ret
  exact ⟨rfl, rfl⟩
theorem Tryd.aheadRowW : ((Tryd.prog.info? 72).bind fun j => (j.methods.find? (·.name == "Write")).map fun m => (m.path.toList, m.func)) = some ([], some (115, true)) := by kernel_rfl
theorem Tryd.aheadW (k : Nat) (a : Addr) (w : World) : (nilAhead (k + 1) 72 (.pointer (some a)) "Write").run Tryd.prog w = .ok (some false) w := by
  have h := Tryd.aheadRowW
  cases hj : Tryd.prog.info? 72 with
  | none => rw [hj] at h; cases h
  | some j =>
    rw [hj, Option.bind_some] at h
    cases hm : j.methods.find? (·.name == "Write") with
    | none => rw [hm] at h; cases h
    | some m =>
      rw [hm] at h
      simp only [Option.map_some, Option.some.injEq, Prod.mk.injEq] at h
      exact nilAhead_of hj hm h.1 h.2 k w
section
variable {w w' : World} {base b p bb t dw st : Nat} {N N' : Nat → Prop} {T : List UInt8}
theorem SD_ge (h : Dw w base b p bb t dw N T st) {k : Nat} (hk : SD base p bb t dw N' k) : base ≤ k := by
  obtain ⟨O, B, _, hW⟩ := h.ww
  rcases hk with (hk | rfl | rfl) | rfl | rfl
  · exact hk.1
  · exact hW.bp
  · exact hW.bbb
  · exact h.lay.bd
  · exact h.lay.bt
theorem Dw.size (h : Dw w base b p bb t dw N T st) : base ≤ w.heap.size := by
  obtain ⟨O, B, _, hW⟩ := h.ww
  exact hW.size
theorem Dw.less (h : Dw w base b p bb t dw N' T st) (hl : DwLay base p bb t dw N) (hN : ∀ k, N k → N' k) (hp : N p) (hb : N bb) : Dw w base b p bb t dw N T st := by
  obtain ⟨O, B, hT, hW⟩ := h.ww
  exact ⟨⟨O, B, hT, hW.less hN hp hb⟩, hl, h.tblk, h.dblk⟩
theorem Dw.more (h : Dw w base b p bb t dw N T st) (hb : Below w.heap.size w w') (hN : ∀ k, N k → N' k) (hN2 : ∀ k, k < w.heap.size → N' k → N k) (hnw : ∀ k, N' k → k < w'.heap.size) : Dw w' base b p bb t dw N' T st := by
  obtain ⟨O, B, hT, hW⟩ := h.ww
  have hl := h.lay
  exact ⟨⟨O, B, hT, hW.more hb hN hN2 hnw⟩, ⟨hN _ hl.nt, hN _ hl.nd, hl.td, hl.tp, hl.tb, hl.dp, hl.db, hl.bt, hl.bd⟩, h.tblk.same (hb.block t h.tblk.lt), h.dblk.same (hb.block dw h.dblk.lt)⟩
theorem Dw.nw (h : Dw w base b p bb t dw N T st) : (∀ k, N k → k < w.heap.size) ∧ N p ∧ N bb := by
  obtain ⟨O, B, hT, hW⟩ := h.ww
  exact ⟨hW.nw, hW.np, hW.nbb⟩
theorem dw_first {w : World} {b p bb t dw : Nat} (hb : w.heap.size = b) (hbb : bb = b + 1) (hp : p = b + 2) (ht : t = b + 3) (hd : dw = b + 4) {w1 w2 w3 w4 : World} (h1 : w1 = w.alloc (.cells #[.slice none 0 0, .int .i64 0, .int .i8 0] 58)) (h2 : w2 = (w1.alloc (.cells (zeroRow 4096) 5)).alloc (.cells (wcells b bb 0) 104))
    (h3 : w3 = w2.alloc (.cells #[.pointer (some ⟨p, 0, none⟩), .pointer none] 74)) (h4 : w4 = (w3.setCell ⟨t, 1, none⟩ (.pointer (some ⟨dw, 0, none⟩))).alloc (.cells #[.pointer (some ⟨t, 0, none⟩), .int .i64 0] 102)) :
    Dw w4 b b p bb t dw (fun k => k = p ∨ k = bb ∨ k = t ∨ k = dw) [] 0 ∧ Below b w w4 := by
  have z1 : w1.heap.size = b + 1 := by rw [h1, World.size_alloc, hb]
  have z2 : w2.heap.size = b + 3 := by rw [h2, World.size_alloc, World.size_alloc, z1]
  have z3 : w3.heap.size = b + 4 := by rw [h3, World.size_alloc, z2]
  have z3s : (w3.setCell ⟨t, 1, none⟩ (.pointer (some ⟨dw, 0, none⟩))).heap.size = b + 4 := by rw [World.size_setCell, z3]
  have z4 : w4.heap.size = b + 5 := by rw [h4, World.size_alloc, z3s]
  have B1 : Below b w w1 := by rw [h1]; exact (Below.refl _ _).alloc (by omega) _
  have B2 : Below (b + 1) w1 w2 := by rw [h2]; exact ((Below.refl _ _).alloc (by omega) _).alloc (by rw [World.size_alloc, z1]; omega) _
  have B3 : Below (b + 3) w2 w3 := by rw [h3]; exact (Below.refl _ _).alloc (by omega) _
  have B4 : Below (b + 3) w3 w4 := by rw [h4]; exact ((Below.refl _ _).setCell (p := ⟨t, 1, none⟩) (by show b + 3 ≤ t; omega) _).alloc (by rw [z3s]; omega) _
  have B24 := B3.trans B4
  have k1 : Blk w1 b #[.slice none 0 0, .int .i64 0, .int .i8 0] 58 := by rw [h1, ← hb]; exact Blk.new _ _ _
  have kr : Blk w2 bb (zeroRow 4096) 5 := by rw [h2, hbb, ← z1]; exact (Blk.new w1 _ _).alloc _
  have kp : Blk w2 p (wcells b bb 0) 104 := by
    have := Blk.new (w1.alloc (.cells (zeroRow 4096) 5)) (wcells b bb 0) 104
    rw [World.size_alloc, z1] at this
    rw [h2, hp]
    exact this
  have kt : Blk w3 t #[.pointer (some ⟨p, 0, none⟩), .pointer none] 74 := by rw [h3, ht, ← z2]; exact Blk.new _ _ _
  have kt4 : Blk w4 t #[.pointer (some ⟨p, 0, none⟩), .pointer (some ⟨dw, 0, none⟩)] 74 := by rw [h4]; exact (kt.set 1 _).alloc _
  have kd : Blk w4 dw #[.pointer (some ⟨t, 0, none⟩), .int .i64 0] 102 := by
    have := Blk.new (w3.setCell ⟨t, 1, none⟩ (.pointer (some ⟨dw, 0, none⟩))) #[.pointer (some ⟨t, 0, none⟩), .int .i64 0] 102
    rw [z3s, ← hd] at this
    rw [h4]
    exact this
  refine ⟨⟨⟨[], [], rfl, ⟨⟨Nat.le_refl _, (fun e => by rcases e with e | e | e | e <;> omega), 0, .inl ⟨rfl, (k1.same (B2.block b (by omega))).same (B24.block b (by omega))⟩⟩, .inl rfl, .inr (.inl rfl), by omega, by omega, by omega, by omega, (fun k e => by rcases e with e | e | e | e <;> omega), kp.same (B24.block p (by omega)), ⟨_, RowB.zero (kr.same (B24.block bb (by omega))), rfl⟩, by simp⟩⟩, ⟨.inr (.inr (.inl rfl)), .inr (.inr (.inr rfl)), by omega, by omega, by omega, by omega, by omega, by omega, by omega⟩, kt4, kd⟩, (B1.trans (B2.mono (by omega))).trans (B24.mono (by omega))⟩
end
/-- What impl.DotWrite leaves. -/
def DotWriteEnd (D : List UInt8) (w : World) (e : Ending) (w' : World) : Prop :=
  (∃ A c, e = .returned (.slice A (wall D).length c) ∧ (wall D).length ≤ c ∧ c ≤ 9223372036854775807 ∧ RB w' A (wall D)) ∧ Below w.heap.size w w'
/-- The loop's relation. -/
def DWLoop (b p bb t dw : Nat) (N : Nat → Prop) (ds : List (List UInt8)) (w : World) (gk : Nat) (u15 : Value) (wr : World) : Prop :=
  ∃ k : Nat, k + gk = ds.length ∧ u15 = .int .i64 k ∧ Dw wr b b p bb t dw N (wrun 0 (ds.take k).flatten) (wlast 0 (ds.take k).flatten) ∧ Below b w wr
theorem flat_take (ds : List (List UInt8)) (k : Nat) (d : List UInt8) (h : ds[k]? = some d) : (ds.take (k + 1)).flatten = (ds.take k).flatten ++ d := by
  rw [List.take_add_one, h]
  simp
theorem flat_le (ds : List (List UInt8)) (k : Nat) : (ds.take k).flatten.length ≤ ds.flatten.length := by
  conv => rhs; rw [← List.take_append_drop k ds]
  rw [List.flatten_append, List.length_append]
  omega
set_option maxRecDepth 200000 in
set_option maxHeartbeats 12800000 in
theorem implDotWrite_any {w : World} {A : Option Addr} {n c : Nat} {ds : List (List UInt8)} (hr : BL w A ds) (hn : n = ds.length) (ht : ds.flatten.length ≤ 17592186044416) (hm : ds.length ≤ 17592186044416) :
    Calls Tryd.prog 16 #[.slice A n c] w (DotWriteEnd ds.flatten w) := by
  subst hn
  have HR := Lib.hid (And.intro hr ht)
  clear hr ht
  go_enter Tryd.func16, Tryd.ntmps16
  go_wp2_with (first
    | (go_at_call 40; refine newWriter_any.mono ?_; rintro e w2 ⟨rfl, hw2⟩; have HW2 := Lib.hid hw2; clear hw2)
    | (go_at_call 39; refine newTpWriter_any.mono ?_; rintro e w3 ⟨rfl, hw3⟩; have HW3 := Lib.hid hw3; clear hw3)
    | (go_at_call 41; refine (dotWriter_any (by rw [HW3.out]; exact Blk.new _ _ _)).mono ?_; rintro e w4 ⟨rfl, hw4⟩; have HW4 := Lib.hid hw4; clear hw4; refine Hid.out ?_))
  have e2 := HW2.out
  simp only [World.size_alloc] at e2
  have z2 : w2.heap.size = w.heap.size + 3 := by rw [e2, World.size_alloc, World.size_alloc, World.size_alloc]
  have z3 : w3.heap.size = w.heap.size + 4 := by rw [HW3.out, World.size_alloc, z2]
  obtain ⟨hD, hB⟩ := dw_first (w := w) (b := w.heap.size) (bb := w.heap.size + 1) (p := w.heap.size + 1 + 1) (t := w2.heap.size) (dw := w3.heap.size) rfl rfl rfl z2 z3 rfl e2 HW3.out HW4.out
  clear e2 z2 z3 HW2 HW3 HW4
  generalize (fun k => k = w.heap.size + 1 + 1 ∨ k = w.heap.size + 1 ∨ k = w2.heap.size ∨ k = w3.heap.size) = N at hD
  have HD := Lib.hid (And.intro hD hB)
  clear hD hB
  refine Lib.hid ?_
  generalize w2.heap.size = t at *
  generalize w3.heap.size = dw at *
  generalize w.heap.size + 1 + 1 = p at *
  generalize w.heap.size + 1 = bb at *
  go_wp2
  go_loopg [7, 15] ds.length (fun gk _ u15 wr => DWLoop w.heap.size p bb t dw N ds w gk u15 wr)
  case atStart => exact ⟨0, by omega, rfl, by simpa [wrun, wlast] using HD.out.1, HD.out.2⟩
  case round =>
    obtain ⟨k, hk, rfl, hD, hB⟩ := hrel
    by_cases hlt : k < ds.length
    · obtain ⟨d, hdk⟩ : ∃ d, ds[k]? = some d := ⟨_, List.getElem?_eq_getElem hlt⟩
      obtain ⟨g, o, B, cb, rfl, hcell0, hdl, hcb, hrb⟩ := HR.out.1.at_ hdk
      have hcell := (hB.cell (p := ⟨g, o + k, none⟩) (World.block_lt_of_cell? _ _ hcell0)).trans hcell0
      have hrb1 : RB (wr.drew.alloc (.cells #[] 5)) B d := (hrb.below hB).below (((Below.refl wr.heap.size wr).drew).alloc (Nat.le_refl _) _)
      have hfl := flat_le ds (k + 1)
      rw [flat_take ds k d hdk, List.length_append] at hfl
      have hfl2 := HR.out.2
      have hsz1 : (wr.drew.alloc (.cells #[] 5)).heap.size = wr.heap.size + 1 := World.size_alloc _ _
      have hlit : OB (wr.drew.alloc (.cells #[] 5)) wr.heap.size (.slice (some ⟨wr.heap.size, 0, none⟩) 0 0) [] := OB.lit' (w := wr.drew) rfl (Nat.le_refl _)
      obtain ⟨v4, w5, hrun, hown, hgrow, hat⟩ := run_append_B 24 (wr.drew.alloc (.cells #[] 5)) wr.heap.size (.slice (some ⟨wr.heap.size, 0, none⟩) 0 0) [] hlit B d cb hrb1 (by simp; omega) (by omega)
      rw [List.nil_append] at hown
      obtain ⟨A5, c5, rfl, hc5, hc5', hr5⟩ := hown.form
      have hb5 : Below wr.heap.size wr w5 := (((Below.refl wr.heap.size wr).drew).alloc (Nat.le_refl _) _).grown hgrow (by omega) (fun j hj => (hlit.lt j hj).1)
      have hA5 : ∀ g' o', A5 = some ⟨g', o', none⟩ → wr.heap.size ≤ g' ∧ g' < w5.heap.size := by
        rintro g' o' rfl
        exact hown.lt g' rfl
      obtain ⟨hnw, hNp, hNb⟩ := hD.nw
      have hs5 := hb5.size
      have hD5 : Dw w5 w.heap.size w.heap.size p bb t dw (fun j => N j ∨ ∃ o', A5 = some ⟨j, o', none⟩) _ _ := hD.more hb5 (fun _ e => .inl e) (fun j hj e => by
        rcases e with e | ⟨o', e⟩
        · exact e
        · have := (hA5 j o' e).1; omega) (fun j e => by
        rcases e with e | ⟨o', e⟩
        · have := hnw j e; omega
        · exact (hA5 j o' e).2)
      have hwr := wrun_le (ds.take k).flatten 0
      have hdw := dwWrite_any (c := c5) hD5 (wlast_le3 _ _ (by decide)) hr5 rfl (fun g' o' e => ⟨.inr ⟨o', e⟩, by have := hnw bb hNb; have := (hA5 g' o' e).1; omega, by have := hnw p hNp; have := (hA5 g' o' e).1; omega, by have := hD.dblk.lt; have := (hA5 g' o' e).1; omega, by have := hD.tblk.lt; have := (hA5 g' o' e).1; omega⟩) (by omega)
      have HP := Lib.hid (And.intro hrun (And.intro hdw (And.intro hb5 (And.intro hD5 (And.intro hD hB)))))
      have hkd := Lib.hid hdk
      have hki : (k : Int) < (ds.length : Int) := by omega
      have hah := Tryd.aheadW 261 ⟨dw, 0, none⟩
      simp only [show 261 + 1 = 262 from rfl] at hah
      clear hrun hdw hb5 hD5 hD hB hr5 hown hgrow hat hlit hrb1 hrb hcell0 hfl hnw hNp hNb hA5 hdk hwr hfl2 hsz1 hs5
      go_wp2
      refine wp_region_held_drew (S := fun _ => True) (by kernel_rfl) trivial (fun hHeld => ?_)
      refine wpAnyH_take (i := 0) (v := ?v0) rfl (by kernel_rfl) (by kernel_rfl) (by kernel_rfl) (fun _ _ _ h => h) (Or.inl ⟨by rfl, ?h0⟩) trivial ?r0
      case h0 => (intro w hSw; (try dsimp only at hSw); go_simp; (try with_reducible rfl))
      (try simp only [List.getElem_toArray, List.getElem_cons_zero, Act.put, List.setIfInBounds_toArray, List.set_cons_zero, List.set_cons_succ])
      refine wpAnyH_take (i := 2) (v := ?v2) rfl (by kernel_rfl) (by kernel_rfl) (by kernel_rfl) (fun _ _ _ h => h) (Or.inl ⟨by rfl, ?h2⟩) trivial ?r2
      case h2 => (intro w hSw; (try dsimp only at hSw); go_simp; (try with_reducible rfl))
      (try simp only [List.getElem_toArray, List.getElem_cons_succ, List.getElem_cons_zero, Act.put, List.setIfInBounds_toArray, List.set_cons_zero, List.set_cons_succ])
      refine wpAnyH_take (i := 4) (v := ?v4) rfl (by kernel_rfl) (by kernel_rfl) (by kernel_rfl) (fun _ _ _ h => h) (Or.inl ⟨by rfl, ?h4⟩) trivial ?r4
      case h4 => (intro w hSw; (try dsimp only at hSw); go_simp; (try with_reducible rfl))
      (try simp only [List.getElem_toArray, List.getElem_cons_succ, List.getElem_cons_zero, Act.put, List.setIfInBounds_toArray, List.set_cons_zero, List.set_cons_succ])
      refine wpAnyH_take (i := 5) (v := ?v5) rfl (by kernel_rfl) (by kernel_rfl) (by kernel_rfl) (fun _ _ _ h => h) (Or.inl ⟨by rfl, ?h5⟩) trivial ?r5
      case h5 => (intro w hSw; (try dsimp only at hSw); go_simp; (try with_reducible rfl))
      (try simp only [List.getElem_toArray, List.getElem_cons_succ, List.getElem_cons_zero, Act.put, List.setIfInBounds_toArray, List.set_cons_zero, List.set_cons_succ])
      refine wpAnyH_take (i := 6) (v := ?v6) rfl (by kernel_rfl) (by kernel_rfl) (by kernel_rfl) (fun _ _ _ h => h) (Or.inl ⟨by rfl, ?h6⟩) trivial ?r6
      case h6 => (intro w hSw; (try dsimp only at hSw); go_simp; (try with_reducible rfl))
      (try simp only [List.getElem_toArray, List.getElem_cons_succ, List.getElem_cons_zero, Act.put, List.setIfInBounds_toArray, List.set_cons_zero, List.set_cons_succ])
      refine wpAnyH_ready (rs := [1]) (by kernel_rfl) (by simp) ?_
      refine AllReadyH.cons rfl (fun K hK => ?_) AllReadyH.nil
      go_simp
      refine hK.out _ _ trivial (fun _ => ?_)
      clear hK K
      (try simp only [List.getElem_toArray, List.getElem_cons_succ, List.getElem_cons_zero, Act.put, List.setIfInBounds_toArray, List.set_cons_zero, List.set_cons_succ])
      refine wpAnyH_ready (rs := [3]) (by kernel_rfl) (by simp) ?_
      refine AllReadyH.cons rfl (fun K hK => ?_) AllReadyH.nil
      rw [if_pos (by rfl)]
      refine Lib.wp_append_run _ (.tmp 20) (.tmp 21) 24 24 rfl _ _ rfl rfl _ _ HP.out.1 ?_
      refine hK.out _ _ trivial (fun _ => ?_)
      clear hK K
      (try simp only [List.getElem_toArray, List.getElem_cons_succ, List.getElem_cons_zero, Act.put, List.setIfInBounds_toArray, List.set_cons_zero, List.set_cons_succ])
      refine wpAnyH_ready (rs := [7]) (by kernel_rfl) (by simp) ?_
      refine AllReadyH.cons rfl (fun K hK => ?_) AllReadyH.nil
      go_simp
      go_wp2_with (go_at_call 115; refine HP.out.2.1.mono ?_; rintro e w6 ⟨⟨v, rfl⟩, hD6, hC6⟩; have H6 := Lib.hid (And.intro hD6 hC6); clear hD6 hC6)
      refine hK.out _ _ trivial (fun _ => ?_)
      clear hK K
      (try simp only [List.getElem_toArray, List.getElem_cons_succ, List.getElem_cons_zero, Act.put, List.setIfInBounds_toArray, List.set_cons_zero, List.set_cons_succ])
      refine wpAnyH_done (by kernel_rfl) ?_ _
      go_wp2
      go_roundg (gk - 1)
      case measure => omega
      case rel =>
        obtain ⟨_, _, hb5, hD5, hD, hB⟩ := HP.out
        have hC6 := H6.out.2
        refine ⟨k + 1, by omega, by go_num, ?_, hB.trans ((hb5.mono hD.size).trans (hC6.below (fun j hj e => by have := SD_ge hD5 e; omega) hD5.size))⟩
        rw [flat_take ds k d hkd.out, wrun_app, wlast_app]
        exact H6.out.1.less hD.lay (fun _ e => .inl e) hD.nw.2.1 hD.nw.2.2
    · have htk : ds.take k = ds := List.take_of_length_le (by omega)
      rw [htk] at hD
      have hki : ¬ (k : Int) < (ds.length : Int) := by omega
      have hwr := wrun_le ds.flatten 0
      have hfl2 := HR.out.2
      have hcl := dwClose_any hD (wlast_le3 _ _ (by decide)) (by omega)
      have hwl := wall_le ds.flatten
      have HC := Lib.hid (And.intro hcl (And.intro hD (And.intro hB hwl)))
      clear hcl hD hB htk hwr hwl
      go_wp2_with (first
        | (go_at_call 69; refine HC.out.1.mono ?_; rintro e w6 ⟨⟨v, rfl⟩, hW6, ht6, hC6⟩; have H6 := Lib.hid (And.intro hW6 hC6); clear hW6 hC6)
        | (go_at_call 42; refine (flush_any H6.out.1 (by have := HC.out.2.2.2; show (wall ds.flatten).length + 0 ≤ _; omega)).mono ?_; rintro e w7 ⟨rfl, hW7, hC7⟩; have H7 := Lib.hid (And.intro hW7 hC7); clear hW7 hC7)
        | (go_at_call 43; refine (bufBytes_any H7.out.1.bf).mono ?_; rintro e w8 ⟨⟨A8, c8, rfl, hc8, hc8', hr8⟩, hO8⟩; have H8 := Lib.hid (And.intro hc8 (And.intro hc8' (And.intro hr8 hO8))); clear hc8 hc8' hr8 hO8))
      go_ret
      obtain ⟨hc8, hc8', hr8, hO8⟩ := H8.out
      obtain ⟨_, hD, hB, _⟩ := HC.out
      have hr8' : RB w8 A8 (wall ds.flatten) := by rw [List.append_nil] at hr8; exact hr8
      have hwl : (wall ds.flatten).length = (wrun 0 ds.flatten).length + (wshut (wlast 0 ds.flatten)).length := List.length_append
      have hC := H6.out.2.trans (H7.out.2.sub (fun k _ e => .inl e))
      refine ⟨⟨A8, c8, by rw [hwl]; rfl, ?_, hc8', hr8'⟩, (hB.trans (hC.below (fun j hj e => by have := SD_ge hD e; omega) hD.size)).trans ⟨hO8.os, hO8.tape, hO8.output, by rw [hO8.heap]; exact Nat.le_refl _, fun k _ => hO8.at_ k⟩⟩
      rw [List.append_nil] at hc8
      exact hc8
set_option maxRecDepth 200000 in
set_option maxHeartbeats 800000 in
theorem zzFits8_any {w : World} {A : Option Addr} {n c : Nat} {ls : List (List UInt8)} (hr : BL w A ls) (hn : n = ls.length) (hl : ∀ l ∈ ls, l.length ≤ 9223372036854775807) (hm : ls.length ≤ 9223372036854775807) :
    Calls Tryd.prog 14 #[.slice A n c] w fun e w' => e = .returned (.bool (decide (ls.length ≤ 2147483647) && allLe 2147483647 ls)) ∧ w = w' := by
  subst hn
  by_cases hbig : ls.length ≤ 2147483647
  · rw [decide_eq_true hbig, Bool.true_and]
    by_cases hne : ls = []
    · subst hne
      clear hr hl
      go_enter Tryd.func14, Tryd.ntmps14
      go_wp2
      go_loop [10] (fun i => i = .int .i64 0) (fun _ => 0)
      case atStart => rfl
      case round =>
        subst hrel
        go_wp2
        go_ret
        exact ⟨rfl, rfl⟩
    · obtain ⟨g, o, rfl, hx⟩ := hr hne
      have HX := Lib.hid (And.intro hx hl)
      clear hr hx hl
      go_enter Tryd.func14, Tryd.ntmps14
      go_wp2
      go_loop [4, 10] (fun _ i => ∃ k : Nat, k ≤ ls.length ∧ i = .int .i64 k ∧ Hid (allLe 2147483647 (ls.take k) = true)) (fun _ i => ls.length - (intOf i).toNat)
      case atStart => exact ⟨0, Nat.zero_le _, rfl, Lib.hid rfl⟩
      case round =>
        obtain ⟨k, hk, rfl, hcl⟩ := hrel
        by_cases hlt : k < ls.length
        · obtain ⟨s, hs⟩ : ∃ s, s = ls[k] := ⟨_, rfl⟩
          obtain ⟨B, cB, hcell, hcl1, hcl2, _⟩ := HX.out.1 k s (by rw [hs]; exact List.getElem?_eq_getElem hlt)
          have hsl : s.length ≤ 9223372036854775807 := by rw [hs]; exact HX.out.2 _ (List.getElem_mem hlt)
          have hsn := allLe_snoc 2147483647 ls k hlt
          have hsb := allLe_bad 2147483647 ls k hlt
          rw [← hs] at hsn hsb
          have HS := Lib.hid (And.intro hsn hsb)
          clear hs hsn hsb
          by_cases hs2 : s.length ≤ 2147483647
          · go_wp2
            go_round
            case rel => exact ⟨k + 1, by omega, by go_num, Lib.hid (by rw [HS.out.1, hcl.out, decide_eq_true hs2]; rfl)⟩
            case measure => simp [intOf]; omega
          · go_wp2
            go_ret
            exact ⟨ret_bool (HS.out.2 (by omega)).symm, rfl⟩
        · go_wp2
          go_ret
          refine ⟨ret_bool ?_, rfl⟩
          have := hcl.out
          rw [List.take_of_length_le (by omega)] at this
          exact this.symm
  · rw [decide_eq_false hbig, Bool.false_and]
    clear hr hl
    go_enter Tryd.func14, Tryd.ntmps14
    go_wp2
    go_ret
    exact ⟨rfl, rfl⟩
set_option maxRecDepth 200000 in
set_option maxHeartbeats 800000 in
theorem blocks_any {w : World} {A : Option Addr} {n c : Nat} {ls : List (List UInt8)} (hr : BL w A ls) (hn : n = ls.length) (hl : ∀ l ∈ ls, l.length ≤ 9223372036854775807) (hm : ls.length ≤ 9223372036854775807) :
    Calls Tryd.prog 15 #[.slice A n c] w fun e w' => e = .returned (.bool (allLe 16777216 ls && decide (ls.length ≤ 65536))) ∧ w = w' := by
  subst hn
  by_cases hne : ls = []
  · subst hne
    clear hr hl
    go_enter Tryd.func15, Tryd.ntmps15
    go_wp2
    go_loop [7] (fun i => i = .int .i64 0) (fun _ => 0)
    case atStart => rfl
    case round =>
      subst hrel
      go_wp2
      go_ret
      exact ⟨rfl, rfl⟩
  · obtain ⟨g, o, rfl, hx⟩ := hr hne
    have HX := Lib.hid (And.intro hx hl)
    clear hr hx hl
    go_enter Tryd.func15, Tryd.ntmps15
    go_wp2
    go_loop [4, 7] (fun _ i => ∃ k : Nat, k ≤ ls.length ∧ i = .int .i64 k ∧ Hid (allLe 16777216 (ls.take k) = true)) (fun _ i => ls.length - (intOf i).toNat)
    case atStart => exact ⟨0, Nat.zero_le _, rfl, Lib.hid rfl⟩
    case round =>
      obtain ⟨k, hk, rfl, hcl⟩ := hrel
      by_cases hlt : k < ls.length
      · obtain ⟨s, hs⟩ : ∃ s, s = ls[k] := ⟨_, rfl⟩
        obtain ⟨B, cB, hcell, hcl1, hcl2, _⟩ := HX.out.1 k s (by rw [hs]; exact List.getElem?_eq_getElem hlt)
        have hsl : s.length ≤ 9223372036854775807 := by rw [hs]; exact HX.out.2 _ (List.getElem_mem hlt)
        have hsn := allLe_snoc 16777216 ls k hlt
        have hsb := allLe_bad 16777216 ls k hlt
        rw [← hs] at hsn hsb
        have HS := Lib.hid (And.intro hsn hsb)
        clear hs hsn hsb
        by_cases hs2 : s.length ≤ 16777216
        · go_wp2
          go_round
          case rel => exact ⟨k + 1, by omega, by go_num, Lib.hid (by rw [HS.out.1, hcl.out, decide_eq_true hs2]; rfl)⟩
          case measure => simp [intOf]; omega
        · go_wp2
          go_ret
          exact ⟨ret_bool (by rw [HS.out.2 (by omega)]; rfl), rfl⟩
      · have hall := hcl.out
        rw [List.take_of_length_le (by omega)] at hall
        have HA := Lib.hid hall
        clear hall
        by_cases hs2 : ls.length ≤ 65536
        · go_wp2
          go_ret
          exact ⟨ret_bool (by first | (rw [HA.out]; simp; omega) | (simp; omega)), rfl⟩
        · go_wp2
          go_ret
          exact ⟨ret_bool (by first | (rw [HA.out]; simp; omega) | (simp; omega)), rfl⟩
/-- spec.within as a plain test. -/
def withinB (l : List UInt8) (n : Int) : Bool := l.any (fun b => (b.toNat : Int) == n)

theorem withinB_nil (n : Int) : withinB [] n = false := rfl
theorem withinB_snoc (l : List UInt8) (b : UInt8) (n : Int) : withinB (l ++ [b]) n = (withinB l n || ((b.toNat : Int) == n)) := by
  unfold withinB; simp
theorem withinB_hit (l : List UInt8) (k : Nat) (h : k < l.length) (n : Int) (e : (l[k].toNat : Int) = n) : withinB l n = true := by
  unfold withinB
  rw [List.any_eq_true]
  exact ⟨l[k], List.getElem_mem _, by simpa using e⟩

set_option maxHeartbeats 400000 in
theorem within_any (l : List UInt8) (n : Int) (_h0 : 0 ≤ n) (_h1 : n ≤ 255) (hs : l.length ≤ 9223372036854775807) (w : World) :
    Calls Tryd.prog 44 #[.string ⟨l.toArray⟩, .int .u8 n] w fun e w' => e = .returned (.bool (withinB l n)) ∧ w = w' := by
  go_enter Tryd.func44, Tryd.ntmps44
  go_wp2
  go_loop [5] (fun i => ∃ k : Nat, k ≤ l.length ∧ i = .int .i64 k ∧ withinB (l.take k) n = false) (fun i => l.length - (intOf i).toNat)
  case atStart => exact ⟨0, Nat.zero_le _, rfl, rfl⟩
  case round =>
    obtain ⟨k, hk, rfl, hno⟩ := hrel
    have HN := Lib.hid hno
    clear hno
    by_cases hlt : k < l.length
    · by_cases hc : (l[k].toNat : Int) = n
      · go_wp2
        go_ret
        exact ⟨ret_bool (withinB_hit l k hlt n hc).symm, rfl⟩
      · go_wp2
        go_round
        case rel => exact ⟨k + 1, by omega, by go_num, by rw [List.take_succ_eq_append_getElem hlt, withinB_snoc, HN.out]; simpa using hc⟩
        case measure => simp [intOf]; omega
    · go_wp2
      go_ret
      exact ⟨ret_bool (by
        have h := HN.out
        rw [List.take_of_length_le (by omega)] at h
        exact h.symm), rfl⟩

theorem has_any {w : World} {A : Option Addr} {n c : Nat} {D : List UInt8} (hr : RB w A D) (hn : n = D.length) (hD : D.length ≤ 17592186044416) :
    Calls Tryd.prog 18 #[.slice A n c, .int .u8 13] w fun e w' => e = .returned (.bool (withinB D 13)) ∧ w = w' := by
  subst hn
  have hw := within_any D 13 (by decide) (by decide) (by omega) w
  have H := Lib.hid (And.intro hr hw)
  clear hr hw
  go_enter Tryd.func18, Tryd.ntmps18
  go_wp2_with (first
    | (with_reducible refine at_toString ?_; refine wpList_toString rfl (.tmp 5) rfl A D.length c D rfl rfl H.out.1 ?_)
    | (go_at_call 44; refine H.out.2.mono ?_; rintro e w' ⟨rfl, rfl⟩))
  go_ret
  exact ⟨rfl, rfl⟩
theorem withinB_not {D : List UInt8} (h : withinB D 13 = false) : (13 : UInt8) ∉ D := by
  intro hm
  have : withinB D 13 = true := by
    unfold withinB
    rw [List.any_eq_true]
    exact ⟨13, hm, by decide⟩
  rw [h] at this
  cases this
theorem blocks_le (ds : List (List UInt8)) (h : ∀ l ∈ ds, l.length ≤ 16777216) (hm : ds.length ≤ 65536) : ds.flatten.length ≤ 1099511627776 := by
  have h1 : ∀ (l : List (List UInt8)), (∀ x ∈ l, x.length ≤ 16777216) → l.flatten.length ≤ l.length * 16777216 := by
    intro l
    induction l with
    | nil => intro _; simp
    | cons x t ih =>
      intro h
      have h1 := h x (List.mem_cons_self ..)
      have h2 := ih (fun y hy => h y (List.mem_cons_of_mem _ hy))
      rw [List.flatten_cons, List.length_append, List.length_cons]
      omega
  have h2 := h1 ds h
  have h3 : ds.length * 16777216 ≤ 65536 * 16777216 := Nat.mul_le_mul hm (Nat.le_refl _)
  omega
/-- Bytes: all that it holds, the call's own row. -/
theorem bufBytesO_any {w : World} {base b : Nat} {N : Nat → Prop} {O : List UInt8} (h : Bf w base b N O) :
    Calls Tryd.prog 43 #[.pointer (some ⟨b, 0, none⟩)] w fun e w' => (∃ A c, e = .returned (.slice A O.length c) ∧ O.length ≤ c ∧ c ≤ 9223372036854775807 ∧ RB w' A O ∧ OB w' base (.slice A O.length c) O) ∧ Only w w' := by
  obtain ⟨lr, ⟨rfl, hbk⟩ | ⟨g, cap, cur, hbk, hg, hcs, hle, hcm, hT, hgb, hgN, hgB, hO⟩⟩ := h.ex
  · have c0 : w.cell? ⟨b, 0, none⟩ = some (.slice none 0 0) := hbk.cell 0
    have c1 : w.cell? ⟨b, 1, none⟩ = some (.int .i64 0) := hbk.cell 1
    clear hbk h
    go_enter Tryd.func43, Tryd.ntmps43
    go_wp2
    go_region_held3 (fun wx => wx.cell? ⟨b, 0, none⟩ = some (.slice none 0 0) ∧ wx.cell? ⟨b, 1, none⟩ = some (.int .i64 0)) (first | go_keep) (fail)
    go_wp2
    go_ret
    exact ⟨⟨none, 0, rfl, Nat.le_refl _, by decide, RB.nil _ _, OB.nil _ _⟩, (Only.refl _).drew⟩
  · have c0 : w.cell? ⟨b, 0, none⟩ = some (.slice (some ⟨g, 0, none⟩) O.length cap) := hbk.cell 0
    have c1 : w.cell? ⟨b, 1, none⟩ = some (.int .i64 0) := hbk.cell 1
    have hcm' : cap ≤ 9223372036854775807 := hcm
    have hob : OB w base (.slice (some ⟨g, 0, none⟩) O.length cap) O := ⟨by rw [bts_length, Nat.mul_one], .inr ⟨g, cap, cur, rfl, hgB, hg, hle, hcm, by omega, by rw [Nat.mul_one]; exact hT⟩⟩
    obtain ⟨A', c', he, _, _, hrb⟩ := hob.form
    have hA : A' = some ⟨g, 0, none⟩ := by injection he with he _ _; exact he.symm
    subst hA
    clear he
    have HE := Lib.hid (And.intro hrb hob)
    clear hbk h hg hT hcm hrb hob
    have hli : (O.length : Int) ≤ (cap : Int) := by omega
    go_enter Tryd.func43, Tryd.ntmps43
    go_wp2
    go_region_held3 (fun wx => wx.cell? ⟨b, 0, none⟩ = some (.slice (some ⟨g, 0, none⟩) O.length cap) ∧ wx.cell? ⟨b, 1, none⟩ = some (.int .i64 0)) (first | go_keep) (fail)
    go_wp2
    go_ret
    exact ⟨⟨some ⟨g, 0, none⟩, _, rfl, hle, hcm', HE.out.1, HE.out.2⟩, (Only.refl _).drew⟩
/-- What impl.DotWrite leaves. -/
def DotWriteEndO (D : List UInt8) (w : World) (e : Ending) (w' : World) : Prop :=
  (∃ A c, e = .returned (.slice A (wall D).length c) ∧ (wall D).length ≤ c ∧ c ≤ 9223372036854775807 ∧ RB w' A (wall D) ∧ OB w' w.heap.size (.slice A (wall D).length c) (wall D)) ∧ Below w.heap.size w w'
set_option maxRecDepth 200000 in
set_option maxHeartbeats 12800000 in
theorem implDotWriteO_any {w : World} {A : Option Addr} {n c : Nat} {ds : List (List UInt8)} (hr : BL w A ds) (hn : n = ds.length) (ht : ds.flatten.length ≤ 17592186044416) (hm : ds.length ≤ 17592186044416) :
    Calls Tryd.prog 16 #[.slice A n c] w (DotWriteEndO ds.flatten w) := by
  subst hn
  have HR := Lib.hid (And.intro hr ht)
  clear hr ht
  go_enter Tryd.func16, Tryd.ntmps16
  go_wp2_with (first
    | (go_at_call 40; refine newWriter_any.mono ?_; rintro e w2 ⟨rfl, hw2⟩; have HW2 := Lib.hid hw2; clear hw2)
    | (go_at_call 39; refine newTpWriter_any.mono ?_; rintro e w3 ⟨rfl, hw3⟩; have HW3 := Lib.hid hw3; clear hw3)
    | (go_at_call 41; refine (dotWriter_any (by rw [HW3.out]; exact Blk.new _ _ _)).mono ?_; rintro e w4 ⟨rfl, hw4⟩; have HW4 := Lib.hid hw4; clear hw4; refine Hid.out ?_))
  have e2 := HW2.out
  simp only [World.size_alloc] at e2
  have z2 : w2.heap.size = w.heap.size + 3 := by rw [e2, World.size_alloc, World.size_alloc, World.size_alloc]
  have z3 : w3.heap.size = w.heap.size + 4 := by rw [HW3.out, World.size_alloc, z2]
  obtain ⟨hD, hB⟩ := dw_first (w := w) (b := w.heap.size) (bb := w.heap.size + 1) (p := w.heap.size + 1 + 1) (t := w2.heap.size) (dw := w3.heap.size) rfl rfl rfl z2 z3 rfl e2 HW3.out HW4.out
  clear e2 z2 z3 HW2 HW3 HW4
  generalize (fun k => k = w.heap.size + 1 + 1 ∨ k = w.heap.size + 1 ∨ k = w2.heap.size ∨ k = w3.heap.size) = N at hD
  have HD := Lib.hid (And.intro hD hB)
  clear hD hB
  refine Lib.hid ?_
  generalize w2.heap.size = t at *
  generalize w3.heap.size = dw at *
  generalize w.heap.size + 1 + 1 = p at *
  generalize w.heap.size + 1 = bb at *
  go_wp2
  go_loopg [7, 15] ds.length (fun gk _ u15 wr => DWLoop w.heap.size p bb t dw N ds w gk u15 wr)
  case atStart => exact ⟨0, by omega, rfl, by simpa [wrun, wlast] using HD.out.1, HD.out.2⟩
  case round =>
    obtain ⟨k, hk, rfl, hD, hB⟩ := hrel
    by_cases hlt : k < ds.length
    · obtain ⟨d, hdk⟩ : ∃ d, ds[k]? = some d := ⟨_, List.getElem?_eq_getElem hlt⟩
      obtain ⟨g, o, B, cb, rfl, hcell0, hdl, hcb, hrb⟩ := HR.out.1.at_ hdk
      have hcell := (hB.cell (p := ⟨g, o + k, none⟩) (World.block_lt_of_cell? _ _ hcell0)).trans hcell0
      have hrb1 : RB (wr.drew.alloc (.cells #[] 5)) B d := (hrb.below hB).below (((Below.refl wr.heap.size wr).drew).alloc (Nat.le_refl _) _)
      have hfl := flat_le ds (k + 1)
      rw [flat_take ds k d hdk, List.length_append] at hfl
      have hfl2 := HR.out.2
      have hsz1 : (wr.drew.alloc (.cells #[] 5)).heap.size = wr.heap.size + 1 := World.size_alloc _ _
      have hlit : OB (wr.drew.alloc (.cells #[] 5)) wr.heap.size (.slice (some ⟨wr.heap.size, 0, none⟩) 0 0) [] := OB.lit' (w := wr.drew) rfl (Nat.le_refl _)
      obtain ⟨v4, w5, hrun, hown, hgrow, hat⟩ := run_append_B 24 (wr.drew.alloc (.cells #[] 5)) wr.heap.size (.slice (some ⟨wr.heap.size, 0, none⟩) 0 0) [] hlit B d cb hrb1 (by simp; omega) (by omega)
      rw [List.nil_append] at hown
      obtain ⟨A5, c5, rfl, hc5, hc5', hr5⟩ := hown.form
      have hb5 : Below wr.heap.size wr w5 := (((Below.refl wr.heap.size wr).drew).alloc (Nat.le_refl _) _).grown hgrow (by omega) (fun j hj => (hlit.lt j hj).1)
      have hA5 : ∀ g' o', A5 = some ⟨g', o', none⟩ → wr.heap.size ≤ g' ∧ g' < w5.heap.size := by
        rintro g' o' rfl
        exact hown.lt g' rfl
      obtain ⟨hnw, hNp, hNb⟩ := hD.nw
      have hs5 := hb5.size
      have hD5 : Dw w5 w.heap.size w.heap.size p bb t dw (fun j => N j ∨ ∃ o', A5 = some ⟨j, o', none⟩) _ _ := hD.more hb5 (fun _ e => .inl e) (fun j hj e => by
        rcases e with e | ⟨o', e⟩
        · exact e
        · have := (hA5 j o' e).1; omega) (fun j e => by
        rcases e with e | ⟨o', e⟩
        · have := hnw j e; omega
        · exact (hA5 j o' e).2)
      have hwr := wrun_le (ds.take k).flatten 0
      have hdw := dwWrite_any (c := c5) hD5 (wlast_le3 _ _ (by decide)) hr5 rfl (fun g' o' e => ⟨.inr ⟨o', e⟩, by have := hnw bb hNb; have := (hA5 g' o' e).1; omega, by have := hnw p hNp; have := (hA5 g' o' e).1; omega, by have := hD.dblk.lt; have := (hA5 g' o' e).1; omega, by have := hD.tblk.lt; have := (hA5 g' o' e).1; omega⟩) (by omega)
      have HP := Lib.hid (And.intro hrun (And.intro hdw (And.intro hb5 (And.intro hD5 (And.intro hD hB)))))
      have hkd := Lib.hid hdk
      have hki : (k : Int) < (ds.length : Int) := by omega
      have hah := Tryd.aheadW 261 ⟨dw, 0, none⟩
      simp only [show 261 + 1 = 262 from rfl] at hah
      clear hrun hdw hb5 hD5 hD hB hr5 hown hgrow hat hlit hrb1 hrb hcell0 hfl hnw hNp hNb hA5 hdk hwr hfl2 hsz1 hs5
      go_wp2
      refine wp_region_held_drew (S := fun _ => True) (by kernel_rfl) trivial (fun hHeld => ?_)
      refine wpAnyH_take (i := 0) (v := ?v0) rfl (by kernel_rfl) (by kernel_rfl) (by kernel_rfl) (fun _ _ _ h => h) (Or.inl ⟨by rfl, ?h0⟩) trivial ?r0
      case h0 => (intro w hSw; (try dsimp only at hSw); go_simp; (try with_reducible rfl))
      (try simp only [List.getElem_toArray, List.getElem_cons_zero, Act.put, List.setIfInBounds_toArray, List.set_cons_zero, List.set_cons_succ])
      refine wpAnyH_take (i := 2) (v := ?v2) rfl (by kernel_rfl) (by kernel_rfl) (by kernel_rfl) (fun _ _ _ h => h) (Or.inl ⟨by rfl, ?h2⟩) trivial ?r2
      case h2 => (intro w hSw; (try dsimp only at hSw); go_simp; (try with_reducible rfl))
      (try simp only [List.getElem_toArray, List.getElem_cons_succ, List.getElem_cons_zero, Act.put, List.setIfInBounds_toArray, List.set_cons_zero, List.set_cons_succ])
      refine wpAnyH_take (i := 4) (v := ?v4) rfl (by kernel_rfl) (by kernel_rfl) (by kernel_rfl) (fun _ _ _ h => h) (Or.inl ⟨by rfl, ?h4⟩) trivial ?r4
      case h4 => (intro w hSw; (try dsimp only at hSw); go_simp; (try with_reducible rfl))
      (try simp only [List.getElem_toArray, List.getElem_cons_succ, List.getElem_cons_zero, Act.put, List.setIfInBounds_toArray, List.set_cons_zero, List.set_cons_succ])
      refine wpAnyH_take (i := 5) (v := ?v5) rfl (by kernel_rfl) (by kernel_rfl) (by kernel_rfl) (fun _ _ _ h => h) (Or.inl ⟨by rfl, ?h5⟩) trivial ?r5
      case h5 => (intro w hSw; (try dsimp only at hSw); go_simp; (try with_reducible rfl))
      (try simp only [List.getElem_toArray, List.getElem_cons_succ, List.getElem_cons_zero, Act.put, List.setIfInBounds_toArray, List.set_cons_zero, List.set_cons_succ])
      refine wpAnyH_take (i := 6) (v := ?v6) rfl (by kernel_rfl) (by kernel_rfl) (by kernel_rfl) (fun _ _ _ h => h) (Or.inl ⟨by rfl, ?h6⟩) trivial ?r6
      case h6 => (intro w hSw; (try dsimp only at hSw); go_simp; (try with_reducible rfl))
      (try simp only [List.getElem_toArray, List.getElem_cons_succ, List.getElem_cons_zero, Act.put, List.setIfInBounds_toArray, List.set_cons_zero, List.set_cons_succ])
      refine wpAnyH_ready (rs := [1]) (by kernel_rfl) (by simp) ?_
      refine AllReadyH.cons rfl (fun K hK => ?_) AllReadyH.nil
      go_simp
      refine hK.out _ _ trivial (fun _ => ?_)
      clear hK K
      (try simp only [List.getElem_toArray, List.getElem_cons_succ, List.getElem_cons_zero, Act.put, List.setIfInBounds_toArray, List.set_cons_zero, List.set_cons_succ])
      refine wpAnyH_ready (rs := [3]) (by kernel_rfl) (by simp) ?_
      refine AllReadyH.cons rfl (fun K hK => ?_) AllReadyH.nil
      rw [if_pos (by rfl)]
      refine Lib.wp_append_run _ (.tmp 20) (.tmp 21) 24 24 rfl _ _ rfl rfl _ _ HP.out.1 ?_
      refine hK.out _ _ trivial (fun _ => ?_)
      clear hK K
      (try simp only [List.getElem_toArray, List.getElem_cons_succ, List.getElem_cons_zero, Act.put, List.setIfInBounds_toArray, List.set_cons_zero, List.set_cons_succ])
      refine wpAnyH_ready (rs := [7]) (by kernel_rfl) (by simp) ?_
      refine AllReadyH.cons rfl (fun K hK => ?_) AllReadyH.nil
      go_simp
      go_wp2_with (go_at_call 115; refine HP.out.2.1.mono ?_; rintro e w6 ⟨⟨v, rfl⟩, hD6, hC6⟩; have H6 := Lib.hid (And.intro hD6 hC6); clear hD6 hC6)
      refine hK.out _ _ trivial (fun _ => ?_)
      clear hK K
      (try simp only [List.getElem_toArray, List.getElem_cons_succ, List.getElem_cons_zero, Act.put, List.setIfInBounds_toArray, List.set_cons_zero, List.set_cons_succ])
      refine wpAnyH_done (by kernel_rfl) ?_ _
      go_wp2
      go_roundg (gk - 1)
      case measure => omega
      case rel =>
        obtain ⟨_, _, hb5, hD5, hD, hB⟩ := HP.out
        have hC6 := H6.out.2
        refine ⟨k + 1, by omega, by go_num, ?_, hB.trans ((hb5.mono hD.size).trans (hC6.below (fun j hj e => by have := SD_ge hD5 e; omega) hD5.size))⟩
        rw [flat_take ds k d hkd.out, wrun_app, wlast_app]
        exact H6.out.1.less hD.lay (fun _ e => .inl e) hD.nw.2.1 hD.nw.2.2
    · have htk : ds.take k = ds := List.take_of_length_le (by omega)
      rw [htk] at hD
      have hki : ¬ (k : Int) < (ds.length : Int) := by omega
      have hwr := wrun_le ds.flatten 0
      have hfl2 := HR.out.2
      have hcl := dwClose_any hD (wlast_le3 _ _ (by decide)) (by omega)
      have hwl := wall_le ds.flatten
      have HC := Lib.hid (And.intro hcl (And.intro hD (And.intro hB hwl)))
      clear hcl hD hB htk hwr hwl
      go_wp2_with (first
        | (go_at_call 69; refine HC.out.1.mono ?_; rintro e w6 ⟨⟨v, rfl⟩, hW6, ht6, hC6⟩; have H6 := Lib.hid (And.intro hW6 hC6); clear hW6 hC6)
        | (go_at_call 42; refine (flush_any H6.out.1 (by have := HC.out.2.2.2; show (wall ds.flatten).length + 0 ≤ _; omega)).mono ?_; rintro e w7 ⟨rfl, hW7, hC7⟩; have H7 := Lib.hid (And.intro hW7 hC7); clear hW7 hC7)
        | (go_at_call 43; refine (bufBytesO_any H7.out.1.bf).mono ?_; rintro e w8 ⟨⟨A8, c8, rfl, hc8, hc8', hr8, ho8⟩, hO8⟩; have H8 := Lib.hid (And.intro hc8 (And.intro hc8' (And.intro hr8 (And.intro ho8 hO8)))); clear hc8 hc8' hr8 ho8 hO8))
      go_ret
      obtain ⟨hc8, hc8', hr8, ho8, hO8⟩ := H8.out
      obtain ⟨_, hD, hB, _⟩ := HC.out
      have hr8' : RB w8 A8 (wall ds.flatten) := by rw [List.append_nil] at hr8; exact hr8
      have hwl : (wall ds.flatten).length = (wrun 0 ds.flatten).length + (wshut (wlast 0 ds.flatten)).length := List.length_append
      have hC := H6.out.2.trans (H7.out.2.sub (fun k _ e => .inl e))
      have ho8' : OB w8 w.heap.size (.slice A8 (wall ds.flatten).length c8) (wall ds.flatten) := by rw [List.append_nil] at ho8; exact ho8
      refine ⟨⟨A8, c8, by rw [hwl]; rfl, ?_, hc8', hr8', ho8'⟩, (hB.trans (hC.below (fun j hj e => by have := SD_ge hD e; omega) hD.size)).trans ⟨hO8.os, hO8.tape, hO8.output, by rw [hO8.heap]; exact Nat.le_refl _, fun k _ => hO8.at_ k⟩⟩
      rw [List.append_nil] at hc8
      exact hc8
set_option maxRecDepth 200000 in
set_option maxHeartbeats 12800000 in
theorem lawDotRound (E : Nat → Addr) (gs : List Nat) (A : Option Addr) (n c : Nat) (ds : List (List UInt8)) (hn : n = ds.length) (hl : ∀ l ∈ ds, l.length ≤ 9223372036854775807) (hm : ds.length ≤ 9223372036854775807) (B : Option Addr) (nr d : Nat) (rest : List UInt8) (hnr : nr = rest.length) (hrl : rest.length ≤ 9223372036854775807) (w : World) (hr : BL w A ds) (hb : RB w B rest) (hs : Sens w E gs)
    (hg : 1 ∈ gs) (hk : 2 ∈ gs) :
    Calls Tryd.prog 13 #[.slice A n c, .slice B nr d] w fun e w' => e = .returned (.bool true) ∧ Below w.heap.size w w' := by
  subst hnr
  have hz := zzFits8_any (c := c) hr hn hl hm
  have hbl := blocks_any (c := c) hr hn hl hm
  subst hn
  obtain ⟨b1, hb1⟩ : ∃ b1, b1 = (decide (ds.length ≤ 2147483647) && allLe 2147483647 ds) := ⟨_, rfl⟩
  obtain ⟨b2, hb2⟩ : ∃ b2, b2 = (allLe 16777216 ds && decide (ds.length ≤ 65536)) := ⟨_, rfl⟩
  rw [← hb1] at hz
  rw [← hb2] at hbl
  have H := Lib.hid (And.intro hz hbl)
  have HB := Lib.hid (And.intro hb1 hb2)
  have HR := Lib.hid (And.intro hr (And.intro hb hs))
  clear hz hbl hb1 hb2 hr hb hs
  by_cases hgo : b1 = true ∧ b2 = true ∧ rest.length ≤ 16777216
  · obtain ⟨rfl, rfl, hr24⟩ := hgo
    have hbs := HB.out.2.symm
    rw [Bool.and_eq_true, allLe_iff, decide_eq_true_eq] at hbs
    have hft := blocks_le ds hbs.1 hbs.2
    have hdl : ds.length ≤ 65536 := hbs.2
    have hjn := specJoin_any (c := c) HR.out.1 rfl (by omega) (by omega)
    have hdw := fun (w1 : World) (h1 : Below w.heap.size w w1) => implDotWriteO_any (c := c) (HR.out.1.below h1) rfl (by omega) (by omega)
    have HJ := Lib.hid (And.intro hjn hdw)
    clear hbs hjn hdw
    generalize ds.flatten = D at *
    obtain ⟨b3, hb3⟩ : ∃ b3, b3 = withinB D 13 := ⟨_, rfl⟩
    have HH := Lib.hid hb3
    clear hb3
    by_cases hgo2 : D.length ≠ 0 ∧ b3 = false
    · obtain ⟨hD0, rfl⟩ := hgo2
      have hD0b : ((D.length : Int) == 0) = false := by rw [beq_eq_false_iff_ne]; omega
      have hne : D ≠ [] := by rintro rfl; simp at hD0
      have h13 := withinB_not HH.out.symm
      obtain ⟨hwl, hcl, hfd⟩ := wall_law D hne h13
      have hwle := wall_le D
      have hlaw : ∀ X R' er, DotBytesSays (wall D ++ rest) X er R' → X = feeds (linesAcc [] D) ∧ er = .nil ∧ R' = rest := fun X R' er hh => by
        rw [hwl] at hh
        exact hh.text hcl
      have hii : ∀ (w1 : World) (A1 : Option Addr) (n1 c1 : Nat), Below w.heap.size w w1 → n1 = (wall D ++ rest).length → RB w1 A1 (wall D ++ rest) → Calls Tryd.prog 26 #[.slice A1 n1 c1] w1 (DotEnd (wall D ++ rest) w1) := fun w1 A1 n1 c1 h1 hn1 hr1 => implDot_any (c := c1) (HR.out.2.2.below h1) hg hk hn1 hr1 (by rw [List.length_append]; omega)
      have HL := Lib.hid hlaw
      have HI := Lib.hid hii
      obtain ⟨m, hm1⟩ : ∃ m, D.length = m + 1 := ⟨D.length - 1, by omega⟩
      obtain ⟨b, hbm⟩ : ∃ b, D[m]? = some b := ⟨_, List.getElem?_eq_getElem (by omega)⟩
      have hlast : D.getLast? = some b := by rw [List.getLast?_eq_getElem?, hm1]; exact hbm
      rw [hlast] at hfd
      have hmi : (D.length : Int) - 1 = (m : Int) := by omega
      have hmn : m < D.length := by omega
      have HM := Lib.hid (And.intro hbm hfd)
      clear hne h13 hwl hcl hfd hlaw hii hm1 hbm hlast hD0
      generalize feeds (linesAcc [] D) = F at *
      go_enter Tryd.func13, Tryd.ntmps13
      go_wp2_with (first
        | (go_at_call 14; refine H.out.1.mono ?_; rintro e w' ⟨rfl, rfl⟩)
        | (go_at_call 15; refine H.out.2.mono ?_; rintro e w' ⟨rfl, rfl⟩)
        | (go_at_call 17; refine HJ.out.1.mono ?_; rintro e w1 ⟨⟨A1, c1, rfl, ho1, hc1, hc1', hr1⟩, hb1⟩; have H1 := Lib.hid (And.intro ho1 (And.intro hr1 hb1)); clear ho1 hr1 hb1)
        | (go_at_call 18; refine (has_any H1.out.2.1 rfl (by omega)).mono ?_; rintro e wq ⟨rfl, hq⟩; subst hq; rw [← HH.out]; refine Hid.out ?_))
      obtain ⟨g1, o1, rfl, hx1⟩ := H1.out.2.1 (by rintro rfl; simp at hmn)
      have hcell := hx1 m b HM.out.1
      clear hx1
      by_cases h10 : b = 10
      · subst h10
        have hF : F = D := by
          rcases HM.out.2 with ⟨_, h⟩ | ⟨h, _⟩
          · exact h
          · exact absurd rfl h
        have hX : RB w1 (some ⟨g1, o1, none⟩) F := by rw [hF]; exact H1.out.2.1
        have hFl : D.length = F.length := by rw [hF]
        obtain ⟨w2, hw2⟩ : ∃ w2, w2 = w1 := ⟨_, rfl⟩
        obtain ⟨cd, hcd⟩ : ∃ cd, cd = c1 := ⟨_, rfl⟩
        subst hw2
        subst hcd
        refine Lib.hid ?_
        have HX := Lib.hid (And.intro H1.out.2.2 hX)
        have HFl := Lib.hid hFl
        clear hX hF hFl
        go_wp2_with (first
          | (go_at_call 16; refine (HJ.out.2 _ HX.out.1).mono ?_; rintro e w3 ⟨⟨A3, c3, rfl, hc3, hc3', hr3, ho3⟩, hb3⟩; have H3 := Lib.hid (And.intro ho3 (And.intro hr3 hb3)); clear hc3 hc3' ho3 hr3 hb3)
          | ((with_reducible refine at_appendB ?_); refine wpList_append_B rfl (.tmp 46) (.tmp 47) rfl w2.heap.size (.slice A3 (wall D).length c3) (wall D) rfl H3.out.1 B rest rest.length d rfl rfl (HR.out.2.1.below (HX.out.1.trans (H3.out.2.2.mono HX.out.1.size))) (by omega) H3.out.2.2.size ((wall D).length + rest.length) rfl (wall D ++ rest) rfl ?_; intro A4 c4 w4 hap; have HP := Lib.hid (And.intro hap (H3.out.2.2.trans ((Below.refl _ _).grown hap.grown H3.out.2.2.size (fun k hk => (H3.out.1.lt k hk).1)))); clear hap)
          | (go_at_call 26; refine (HI.out w4 A4 _ c4 (HX.out.1.trans (HP.out.2.mono HX.out.1.size)) (by rw [List.length_append]) HP.out.1.read).mono ?_; rintro e w5 ⟨X, A5, c5, er, R, A6, c6, rfl, hsay, hrb5, hrb6, hb5⟩; have hB45 := HP.out.2.trans (hb5.mono HP.out.2.size); have hx2 := HX.out.2.below hB45; have hx3 := HR.out.2.1.below (HX.out.1.trans (hB45.mono HX.out.1.size)); have H5 := Lib.hid (HX.out.1.trans (hB45.mono HX.out.1.size)); obtain ⟨rfl, rfl, rfl⟩ := HL.out _ _ _ hsay; have s1 := run_toStringR (n := X.length) (c := c5) rfl hrb5; have s2 := run_toStringR (n := D.length) (c := cd) HFl.out hx2; have s3 := run_toStringR (n := R.length) (c := c6) rfl hrb6; have s4 := run_toStringR (n := R.length) (c := d) rfl hx3; clear hsay hrb5 hrb6 hb5 hB45 hx2 hx3; refine Hid.out ?_))
        refine Lib.hid ?_
        simp only [Er.num]
        go_wp2
        go_ret
        exact ⟨rfl, H5.out⟩
      · have n10 : ((b.toNat : Int) == 10) = false := byte_ne' 10 h10
        have hF : F = D ++ [10] := by
          rcases HM.out.2 with ⟨h, _⟩ | ⟨_, h⟩
          · injection h with h; exact absurd h h10
          · exact h
        have HF := Lib.hid hF
        have h1b := RB.one' w1 10 5 _ rfl
        have HO := Lib.hid h1b
        clear hF h10 h1b
        refine Lib.hid ?_
        go_wp2_with ((with_reducible refine at_appendB ?_); refine wpList_append_B rfl (.tmp 41) (.tmp 42) rfl w.heap.size (.slice (some ⟨g1, o1, none⟩) D.length c1) D rfl (H1.out.1.alloc _) (some ⟨w1.heap.size, 0, none⟩) [10] 1 1 rfl rfl HO.out (by simp; omega) (by rw [World.size_alloc]; have := H1.out.2.2.size; omega) (D.length + 1) rfl (D ++ [10]) rfl ?_; intro Ad cd w2 hap; have HPa := Lib.hid hap; clear hap; refine Hid.out ?_)
        have hsz := H1.out.2.2.size
        have hB2 : Below w.heap.size w w2 := (H1.out.2.2.trans ((Below.refl _ _).alloc hsz _)).trans (HPa.out.below (H1.out.1.alloc _) (by rw [World.size_alloc]; omega))
        have hX : RB w2 Ad F := by rw [HF.out]; exact HPa.out.read
        have HX := Lib.hid (And.intro hB2 hX)
        have HFl := Lib.hid (show D.length + 1 = F.length by rw [HF.out]; simp)
        clear hB2 hX HF hsz
        refine Lib.hid ?_
        go_wp2_with (first
          | (go_at_call 16; refine (HJ.out.2 _ HX.out.1).mono ?_; rintro e w3 ⟨⟨A3, c3, rfl, hc3, hc3', hr3, ho3⟩, hb3⟩; have H3 := Lib.hid (And.intro ho3 (And.intro hr3 hb3)); clear hc3 hc3' ho3 hr3 hb3)
          | ((with_reducible refine at_appendB ?_); refine wpList_append_B rfl (.tmp 46) (.tmp 47) rfl w2.heap.size (.slice A3 (wall D).length c3) (wall D) rfl H3.out.1 B rest rest.length d rfl rfl (HR.out.2.1.below (HX.out.1.trans (H3.out.2.2.mono HX.out.1.size))) (by omega) H3.out.2.2.size ((wall D).length + rest.length) rfl (wall D ++ rest) rfl ?_; intro A4 c4 w4 hap; have HP := Lib.hid (And.intro hap (H3.out.2.2.trans ((Below.refl _ _).grown hap.grown H3.out.2.2.size (fun k hk => (H3.out.1.lt k hk).1)))); clear hap)
          | (go_at_call 26; refine (HI.out w4 A4 _ c4 (HX.out.1.trans (HP.out.2.mono HX.out.1.size)) (by rw [List.length_append]) HP.out.1.read).mono ?_; rintro e w5 ⟨X, A5, c5, er, R, A6, c6, rfl, hsay, hrb5, hrb6, hb5⟩; have hB45 := HP.out.2.trans (hb5.mono HP.out.2.size); have hx2 := HX.out.2.below hB45; have hx3 := HR.out.2.1.below (HX.out.1.trans (hB45.mono HX.out.1.size)); have H5 := Lib.hid (HX.out.1.trans (hB45.mono HX.out.1.size)); obtain ⟨rfl, rfl, rfl⟩ := HL.out _ _ _ hsay; have s1 := run_toStringR (n := X.length) (c := c5) rfl hrb5; have s2 := run_toStringR (n := D.length + 1) (c := cd) HFl.out hx2; have s3 := run_toStringR (n := R.length) (c := c6) rfl hrb6; have s4 := run_toStringR (n := R.length) (c := d) rfl hx3; clear hsay hrb5 hrb6 hb5 hB45 hx2 hx3; refine Hid.out ?_))
        refine Lib.hid ?_
        simp only [Er.num]
        go_wp2
        go_ret
        exact ⟨rfl, H5.out⟩
    · rcases (show D.length = 0 ∨ (D.length ≠ 0 ∧ b3 = true) by
        by_cases h0 : D.length = 0
        · exact .inl h0
        · cases b3
          · exact absurd ⟨h0, rfl⟩ hgo2
          · exact .inr ⟨h0, rfl⟩) with h0 | ⟨h0, rfl⟩
      · have h0i : (D.length : Int) = 0 := by omega
        clear hgo2
        go_enter Tryd.func13, Tryd.ntmps13
        go_wp2_with (first
          | (go_at_call 14; refine H.out.1.mono ?_; rintro e w' ⟨rfl, rfl⟩)
          | (go_at_call 15; refine H.out.2.mono ?_; rintro e w' ⟨rfl, rfl⟩)
          | (go_at_call 17; refine HJ.out.1.mono ?_; rintro e w1 ⟨⟨A1, c1, rfl, ho1, hc1, hc1', hr1⟩, hb1⟩; have H1 := Lib.hid (And.intro hr1 hb1); clear ho1 hr1 hb1))
        go_ret
        exact ⟨rfl, H1.out.2⟩
      · have hD0b : ((D.length : Int) == 0) = false := by rw [beq_eq_false_iff_ne]; omega
        clear hgo2
        go_enter Tryd.func13, Tryd.ntmps13
        go_wp2_with (first
          | (go_at_call 14; refine H.out.1.mono ?_; rintro e w' ⟨rfl, rfl⟩)
          | (go_at_call 15; refine H.out.2.mono ?_; rintro e w' ⟨rfl, rfl⟩)
          | (go_at_call 17; refine HJ.out.1.mono ?_; rintro e w1 ⟨⟨A1, c1, rfl, ho1, hc1, hc1', hr1⟩, hb1⟩; have H1 := Lib.hid (And.intro hr1 hb1); clear ho1 hr1 hb1)
          | (go_at_call 18; refine (has_any H1.out.1 rfl (by omega)).mono ?_; rintro e wq ⟨rfl, hq⟩; subst hq; rw [← HH.out]))
        go_ret
        exact ⟨rfl, H1.out.2⟩
  · clear HR HB
    rcases (show b1 = false ∨ (b1 = true ∧ 2147483647 < rest.length) ∨ (b1 = true ∧ b2 = false ∧ rest.length ≤ 2147483647) ∨ (b1 = true ∧ b2 = true ∧ rest.length ≤ 2147483647 ∧ 16777216 < rest.length) by
      cases b1
      · exact .inl rfl
      · by_cases h1 : 2147483647 < rest.length
        · exact .inr (.inl ⟨rfl, h1⟩)
        · cases b2
          · exact .inr (.inr (.inl ⟨rfl, rfl, by omega⟩))
          · by_cases h2 : 16777216 < rest.length
            · exact .inr (.inr (.inr ⟨rfl, rfl, by omega, h2⟩))
            · exact absurd ⟨rfl, rfl, by omega⟩ hgo) with rfl | ⟨rfl, h1⟩ | ⟨rfl, rfl, h1⟩ | ⟨rfl, rfl, h1, h2⟩
    all_goals
      clear hgo
      go_enter Tryd.func13, Tryd.ntmps13
      go_wp2_with (first
        | (go_at_call 14; refine H.out.1.mono ?_; rintro e w' ⟨rfl, rfl⟩)
        | (go_at_call 15; refine H.out.2.mono ?_; rintro e w' ⟨rfl, rfl⟩))
      go_ret
      exact ⟨rfl, Below.refl _ _⟩
end Go.Proofs.YteiiocibldpioaaDoor
