/- A bytes.Buffer that grows by Write, with a frame that keeps rows of bytes that are not its own. -/
import Derived.Test.YteiiocibldpioaaDoorShelfB
import Derived.Test.YteiiocibldpioaaDoorZr
import Derived.Lib.BufferMore
import Derived.Deep.RegionWith
namespace Go.Proofs.YteiiocibldpioaaDoor
open Go.RowKit

/-- What grow leaves. -/
def GrowEnd (w : World) (b l n : Nat) (lr : Int) (T : List Value) (e : Ending) (w' : World) : Prop :=
  e = .returned (.int .i64 l) ∧ ∃ (g cap : Nat) (cs : Array Value), Blk w' b #[.slice (some ⟨g, 0, none⟩) (l + n : Nat) cap, .int .i64 0, .int .i8 lr] 58 ∧ Blk w' g cs 5 ∧ cs.size = cap ∧ l + n ≤ cap ∧ cap ≤ maxLen ∧ cs.toList.take l = T ∧ w.heap.size ≤ g ∧ Chg (fun k => k = b) w w'
theorem Tryd.nilEq (W : World) : (binOp .eql 24 (.slice none 0 0) (.slice none 0 0)).run Tryd.prog W = .ok (.bool true) W := Lib.run_eql_slice_nil_nil W _ _ Tryd.underlying24
theorem Tryd.someEq (a : Addr) (n c : Nat) (W : World) : (binOp .eql 24 (.slice (some a) n c) (.slice none 0 0)).run Tryd.prog W = .ok (.bool false) W := Lib.run_eql_slice_some_nil W a n c Tryd.underlying24
theorem Chg.ofDrawn (S : Nat → Prop) (w : World) (k : Nat) : Chg S w (w.drewN k) := (Chg.refl S w).drewN k
set_option maxRecDepth 200000 in
set_option maxHeartbeats 6400000 in
theorem grow_small {w : World} {b n : Nat} {lr : Int} (h : Blk w b #[.slice none 0 0, .int .i64 0, .int .i8 lr] 58) (hn : 1 ≤ n) (h64 : n ≤ 64) :
    Calls Tryd.prog 111 #[.pointer (some ⟨b, 0, none⟩), .int .i64 n] w (GrowEnd w b 0 n lr []) := by
  obtain ⟨i0, hi, hz0, hz1, hz2⟩ := info_parts Tryd.infoU
  have hmk : ∀ W : World, (Instr.makeSlice 24 (.int .i64 (n : Int)) (.int .i64 64)).run Tryd.prog W = .ok (.slice (some ⟨W.heap.size, 0, none⟩) n 64) (W.alloc (.cells (madeCells (Value.int .u8 0).cells 64) 5)) := fun W => by
    have h := run_makeSlice (P := Tryd.prog) W 24 5 i0 (.int .u8 0) Tryd.underlying24 hi hz0 .i64 .i64 (n : Int) 64 (by omega) (by omega) (by rw [hz1]; decide) (by rw [hz2]; decide) (by decide)
    rw [hz1] at h
    simpa using h
  clear hi hz0 hz1 hz2
  have hIs : Lib.IsBuffer 58 5 0 b [] w := ⟨Nat.zero_le _, _, _, h, World.ownsRow_nil _ _ _ _, by simp [Value.ownBlock]⟩
  have hnil := Tryd.nilEq
  have HL := Lib.hid (Tryd.Buffer_Len 0 b [] w hIs)
  have H := Lib.hid h
  clear hIs h
  go_enter Tryd.func111, Tryd.ntmps111
  go_wp2_with (go_at_call 112; refine HL.out.mono ?_; rintro e W0 ⟨rfl, k, hW0⟩; have HW0 := Lib.hid hW0; clear hW0; refine Hid.out ?_)
  refine Lib.hid ?_
  have hbk0 : Blk W0 b #[.slice none 0 0, .int .i64 0, .int .i8 lr] 58 := by rw [HW0.out]; exact H.out
  have c0 : W0.cell? ⟨b, 0, none⟩ = some (.slice none 0 0) := hbk0.cell 0
  have c1 : W0.cell? ⟨b, 1, none⟩ = some (.int .i64 0) := hbk0.cell 1
  have f0 := hbk0.free 0
  have hbW0 := hbk0.lt
  have c0a : ∀ o, (W0.alloc o).cell? ⟨b, 0, none⟩ = some (.slice none 0 0) := fun o => (World.cell?_of_block (a := ⟨b, 0, none⟩) (Below.heap_alloc W0 o b hbW0)).trans c0
  have f0a : ∀ o, (W0.alloc o).frozen? ⟨b, 0, none⟩ = false := fun o => (World.frozen?_of_block (a := ⟨b, 0, none⟩) (Below.heap_alloc W0 o b hbW0)).trans f0
  have HT := Lib.hid (Tryd.Buffer_tryGrow_none b none 0 0 n W0 c0 (Nat.le_refl _) (Nat.zero_le _) (by omega))
  have HB := Lib.hid hbk0
  clear hbk0 hbW0
  go_wp2_with (go_at_call 110; refine HT.out.mono ?_; rintro e w' ⟨rfl, rfl⟩)
  go_ret
  have hB := HB.out
  have hC : Chg (fun k => k = b) w w' := by rw [HW0.out]; exact Chg.ofDrawn _ w k
  have hbl := hB.lt
  refine ⟨rfl, w'.heap.size, 64, madeCells (Value.int .u8 0).cells 64, ?_, ?_, size_madeCells _ _, by omega, by decide, rfl, hC.size, (hC.alloc _).setCell (p := ⟨b, 0, none⟩) (fun _ => rfl) _⟩
  · have := (hB.same (Below.heap_alloc w' (.cells (madeCells (Value.int .u8 0).cells 64) 5) b hbl)).set 0 (.slice (some ⟨w'.heap.size, 0, none⟩) n 64)
    rw [Nat.zero_add]
    exact this
  · exact (Blk.new w' _ _).setOther 0 _ (by omega)
set_option maxRecDepth 200000 in
set_option maxHeartbeats 12800000 in
theorem grow_big {w : World} {b n : Nat} {lr : Int} (h : Blk w b #[.slice none 0 0, .int .i64 0, .int .i8 lr] 58) (h64 : 64 < n) (hlim : n ≤ 140737488355328) :
    Calls Tryd.prog 111 #[.pointer (some ⟨b, 0, none⟩), .int .i64 n] w (GrowEnd w b 0 n lr []) := by
  have hIs : Lib.IsBuffer 58 5 0 b [] w := ⟨Nat.zero_le _, _, _, h, World.ownsRow_nil _ _ _ _, by simp [Value.ownBlock]⟩
  have hnil := Tryd.nilEq
  have HL := Lib.hid (Tryd.Buffer_Len 0 b [] w hIs)
  have H := Lib.hid h
  clear hIs h
  go_enter Tryd.func111, Tryd.ntmps111
  go_wp2_with (go_at_call 112; refine HL.out.mono ?_; rintro e W0 ⟨rfl, k, hW0⟩; have HW0 := Lib.hid hW0; clear hW0; refine Hid.out ?_)
  refine Lib.hid ?_
  have hbk0 : Blk W0 b #[.slice none 0 0, .int .i64 0, .int .i8 lr] 58 := by rw [HW0.out]; exact H.out
  have c0 : W0.cell? ⟨b, 0, none⟩ = some (.slice none 0 0) := hbk0.cell 0
  have c1 : W0.cell? ⟨b, 1, none⟩ = some (.int .i64 0) := hbk0.cell 1
  have f0 := hbk0.free 0
  have f1 := hbk0.free 1
  have HT := Lib.hid (Tryd.Buffer_tryGrow_none b none 0 0 n W0 c0 (Nat.le_refl _) (Nat.zero_le _) (by omega))
  have HG := Lib.hid (fun W => Tryd.bytes_growSlice_nil n W (by omega) hlim)
  have HB := Lib.hid hbk0
  clear hbk0
  have hni : ¬ (n : Int) ≤ 64 := by omega
  have hwn : IntKind.i64.wrap (n : Int) = n := by rw [IntKind.wrap_i64]; omega
  go_wp2_with (go_at_call 110; refine HT.out.mono ?_; rintro e w' ⟨rfl, rfl⟩)
  go_region_with (first | (go_at_call 113; refine (HG.out _).mono ?_; rintro e w2 ⟨cap2, cells, rfl, hN, hcsz, hcap2, hcm2, hbel⟩; have hbk2 : Blk w2 b #[.slice none 0 0, .int .i64 0, .int .i8 lr] 58 := HB.out.same (hbel.block b HB.out.lt); have d0 : w2.cell? ⟨b, 0, none⟩ = some (.slice none 0 0) := hbk2.cell 0; have d1 : w2.cell? ⟨b, 1, none⟩ = some (.int .i64 0) := hbk2.cell 1; have e0 := hbk2.free 0; have e1 := hbk2.free 1; have H2 := Lib.hid (And.intro hN (And.intro hcsz (And.intro hbk2 hbel))); clear hN hcsz hbk2 hbel))
  all_goals
    have hcm3 : cap2 ≤ 9223372036854775807 := hcm2
    go_wp2
    go_ret
    obtain ⟨hN, hcsz, hbk2, hbel⟩ := H2.out
    have hC : Chg (fun k => k = b) w w2 := by
      have h1 : Chg (fun k => k = b) w w'.drew := by rw [HW0.out]; exact (Chg.ofDrawn _ w k).drew
      exact h1.of_below hbel (fun j hj _ => Nat.lt_of_lt_of_le hj h1.size)
    have hgb : w'.heap.size ≠ b := by have := HB.out.lt; omega
    refine ⟨rfl, w'.heap.size, cap2, cells, ?_, ((Blk.setOther (g := w'.heap.size) hN 0 _ hgb).setOther 1 _ hgb).setOther 0 _ hgb, hcsz, by omega, hcm2, rfl, by rw [HW0.out]; exact Nat.le_refl _, ((hC.setCell (p := ⟨b, 0, none⟩) (fun _ => rfl) _).setCell (p := ⟨b, 1, none⟩) (fun _ => rfl) _).setCell (p := ⟨b, 0, none⟩) (fun _ => rfl) _⟩
    rw [Nat.zero_add]
    exact ((hbk2.set 0 _).set 1 _).set 0 _
set_option maxRecDepth 200000 in
set_option maxHeartbeats 12800000 in
theorem grow_row {w : World} {b g l cap n : Nat} {lr : Int} {cur : Array Value} {T : List Value} (h : Blk w b #[.slice (some ⟨g, 0, none⟩) l cap, .int .i64 0, .int .i8 lr] 58) (hg : Blk w g cur 5) (hcs : cur.size = cap) (hlc : l ≤ cap) (hcm : cap ≤ maxLen)
    (hT : cur.toList.take l = T) (h1 : ∀ v ∈ T, v.oneCell' = true) (hl : 0 < l) (hn : 1 ≤ n) (hroom : cap - l < n) (hlim : l + n ≤ 140737488355328) (hgb : g ≠ b) :
    Calls Tryd.prog 111 #[.pointer (some ⟨b, 0, none⟩), .int .i64 n] w (GrowEnd w b l n lr T) := by
  have hlT : T.length = l := by rw [← hT, List.length_take, Array.length_toList, hcs]; omega
  have hIs : Lib.IsBuffer 58 5 0 b T w := ⟨Nat.zero_le _, _, _, h, ⟨by rw [hlT, Nat.mul_one], .inr ⟨g, cap, cur, by rw [hlT], Nat.zero_le _, hg, by omega, hcm, by omega, by rw [hlT, Nat.mul_one]; exact hT⟩⟩, by simp [Value.ownBlock]; exact hgb⟩
  have hsome := Tryd.someEq ⟨g, 0, none⟩ l cap
  have hlen := Tryd.Buffer_Len 0 b T w hIs
  rw [hlT] at hlen
  have HL := Lib.hid hlen
  have H := Lib.hid (And.intro h (And.intro hg (And.intro hcs (And.intro hT hlT))))
  clear hIs h hlen hg hlT
  have hcm' : cap ≤ 9223372036854775807 := hcm
  have hc2 : cap ≤ 140737488355328 := by omega
  go_enter Tryd.func111, Tryd.ntmps111
  go_wp2_with (go_at_call 112; refine HL.out.mono ?_; rintro e W0 ⟨rfl, k, hW0⟩; have HW0 := Lib.hid hW0; clear hW0; refine Hid.out ?_)
  refine Lib.hid ?_
  have hbk0 : Blk W0 b #[.slice (some ⟨g, 0, none⟩) l cap, .int .i64 0, .int .i8 lr] 58 := by rw [HW0.out]; exact H.out.1
  have hg0 : Blk W0 g cur 5 := by rw [HW0.out]; exact H.out.2.1
  have c0 : W0.cell? ⟨b, 0, none⟩ = some (.slice (some ⟨g, 0, none⟩) l cap) := hbk0.cell 0
  have c1 : W0.cell? ⟨b, 1, none⟩ = some (.int .i64 0) := hbk0.cell 1
  have f0 := hbk0.free 0
  have f1 := hbk0.free 1
  have HT := Lib.hid (Tryd.Buffer_tryGrow_none b (some ⟨g, 0, none⟩) l cap n W0 c0 hlc hcm hroom)
  have HG := Lib.hid (fun (W : World) (hW : Blk W g cur 5) => Tryd.bytes_growSlice_row g l cap n cur W hW hcs hlc hn hlim hc2 (by rw [hT]; exact h1))
  have HB := Lib.hid (And.intro hbk0 hg0)
  clear hbk0 hg0 hcs hT h1
  have hwn : IntKind.i64.wrap (n : Int) = n := by rw [IntKind.wrap_i64]; omega
  go_wp2_with (go_at_call 110; refine HT.out.mono ?_; rintro e w' ⟨rfl, rfl⟩)
  go_region_with (first | (go_at_call 113; refine (HG.out w'.drew HB.out.2).mono ?_; rintro e w2 ⟨cap2, cells, rfl, hN, hcsz, htk, hcap2, hcm2, hbel⟩; have hbk2 : Blk w2 b #[.slice (some ⟨g, 0, none⟩) l cap, .int .i64 0, .int .i8 lr] 58 := HB.out.1.same (hbel.block b HB.out.1.lt); have d0 : w2.cell? ⟨b, 0, none⟩ = some (.slice (some ⟨g, 0, none⟩) l cap) := hbk2.cell 0; have d1 : w2.cell? ⟨b, 1, none⟩ = some (.int .i64 0) := hbk2.cell 1; have e0 := hbk2.free 0; have e1 := hbk2.free 1; have H2 := Lib.hid (And.intro hN (And.intro hcsz (And.intro htk (And.intro hbk2 hbel)))); clear hN hcsz htk hbk2 hbel))
  all_goals
    have hcm3 : cap2 ≤ 9223372036854775807 := hcm2
    go_wp2
    go_ret
    obtain ⟨hN, hcsz, htk, hbk2, hbel⟩ := H2.out
    have hC : Chg (fun k => k = b) w w2 := by
      have h1 : Chg (fun k => k = b) w w'.drew := by rw [HW0.out]; exact (Chg.ofDrawn _ w k).drew
      exact h1.of_below hbel (fun j hj _ => Nat.lt_of_lt_of_le hj h1.size)
    have hgb : w'.heap.size ≠ b := by have := HB.out.1.lt; omega
    exact ⟨rfl, w'.heap.size, cap2, cells, ((hbk2.set 0 _).set 1 _).set 0 _, ((Blk.setOther (g := w'.heap.size) hN 0 _ hgb).setOther 1 _ hgb).setOther 0 _ hgb, hcsz, hcap2, hcm2, htk.trans H.out.2.2.2.1, by rw [HW0.out]; exact Nat.le_refl _, ((hC.setCell (p := ⟨b, 0, none⟩) (fun _ => rfl) _).setCell (p := ⟨b, 1, none⟩) (fun _ => rfl) _).setCell (p := ⟨b, 0, none⟩) (fun _ => rfl) _⟩
end Go.Proofs.YteiiocibldpioaaDoor
