/- The walk of the reference's FieldsText. -/
import Derived.Test.YtilhgjcjofobeaaDoorZC6
import Derived.Test.YtilhgjcjofobeaaDoorZCa
import Derived.Deep.RegionWith
namespace Go.Proofs.YtilhgjcjofobeaaDoor
open Go.RowKit

theorem fieldT_le {F : FieldR} (h : wellB F.val = true) : (fieldT F).length ≤ 23 * F.wt := by
  have h1 := textR_le F.val.feed (well_bl h) F.val.ps
  have h2 : F.wt = F.key.length + (wtS F.val.ps + F.val.bl.length + 1) + 2 := rfl
  unfold fieldT
  simp only [List.length_append, List.length_cons, List.length_nil]
  omega
theorem fieldsT_le : ∀ (Fs : List FieldR), (∀ F ∈ Fs, wellB F.val = true) → (fieldsT Fs).length ≤ 23 * (Fs.map FieldR.wt).sum
  | [], _ => by simp [fieldsT]
  | F :: r, h => by
    have ih := fieldsT_le r (fun G hG => h G (List.mem_cons_of_mem _ hG))
    have h1 := fieldT_le (h F (List.mem_cons_self ..))
    have e1 : fieldsT (F :: r) = fieldT F ++ fieldsT r := by simp [fieldsT]
    rw [e1, List.length_append, List.map_cons, List.sum_cons]
    omega
theorem fieldsT_snoc (Fs : List FieldR) (k : Nat) (h : k < Fs.length) : fieldsT (Fs.take (k + 1)) = fieldsT (Fs.take k) ++ fieldT Fs[k] := by
  unfold fieldsT
  rw [List.take_succ_eq_append_getElem h, List.flatMap_append]
  simp
theorem fsum_take_le : ∀ (Fs : List FieldR) (k : Nat), ((Fs.take k).map FieldR.wt).sum ≤ (Fs.map FieldR.wt).sum
  | [], k => by simp
  | L :: r, 0 => by simp
  | L :: r, k + 1 => by
    have := fsum_take_le r k
    simp only [List.take_succ_cons, List.map_cons, List.sum_cons]
    omega
set_option maxRecDepth 200000 in
set_option maxHeartbeats 3200000 in
theorem fieldsText_any {w : World} {A : Option Addr} {n c : Nat} {Fs : List FieldR} (hr : FL w A Fs) (hn : n = Fs.length) (hl : ∀ F ∈ Fs, F.len) (hbk : (Fs.map FieldR.wt).sum ≤ 1048576) (hw : ∀ F ∈ Fs, wellB F.val = true) :
    Calls Tryd.prog 9 #[.slice A n c] w fun e w' => e = .returned (.string ⟨(fieldsT Fs).toArray⟩) ∧ Below w.heap.size w w' := by
  subst hn
  have hm := (fwt_le Fs _ hbk).1
  have HX := Lib.hid (And.intro hr (And.intro hl (And.intro hbk hw)))
  clear hr hl hbk hw
  go_enter Tryd.func9, Tryd.ntmps9
  go_wp2
  go_loopg [3, 5, 8] Fs.length (fun gk u3 _ i wr => ∃ (k : Nat) (T : List UInt8), k + gk = Fs.length ∧ i = .int .i64 k ∧ u3 = .string ⟨T.toArray⟩ ∧ T.length ≤ 24117248 ∧ Hid (T = fieldsT (Fs.take k)) ∧ Hid (Below w.heap.size w wr))
  case atStart => exact ⟨0, [], by omega, rfl, rfl, by simp, Lib.hid rfl, Lib.hid (Below.refl _ _)⟩
  case round =>
    obtain ⟨k, T, hk, rfl, rfl, hTl, hT, hb⟩ := hrel
    by_cases hlt : k < Fs.length
    · obtain ⟨g, o, rfl, hx⟩ := HX.out.1 (by rintro rfl; simp at hlt)
      obtain ⟨F, hF⟩ : ∃ F, F = Fs[k] := ⟨_, rfl⟩
      have hat := (hx k F (by rw [hF]; exact List.getElem?_eq_getElem hlt)).below hb.out
      have hlen := HX.out.2.1 F (by rw [hF]; exact List.getElem_mem hlt)
      have hwF := HX.out.2.2.2 F (by rw [hF]; exact List.getElem_mem hlt)
      have hbF := ((fwt_le Fs _ HX.out.2.2.1).2 F (by rw [hF]; exact List.getElem_mem hlt))
      have hsn := fieldsT_snoc Fs k hlt
      rw [← hF, ← hT.out] at hsn
      have hle2 : T.length + (fieldT F).length ≤ 24117248 := by
        have h1 := fieldsT_le (Fs.take (k + 1)) (fun G hG => HX.out.2.2.2 G (List.mem_of_mem_take hG))
        have h2 := fsum_take_le Fs (k + 1)
        have h3 := HX.out.2.2.1
        rw [hsn, List.length_append] at h1
        omega
      obtain ⟨ck, B, c', c0, c1, c2, hs⟩ := hat
      have hb1 : Below w.heap.size w (wr.alloc (.cells #[.string ⟨F.key.toArray⟩, .slice B F.val.ps.length c', .string ⟨F.val.bl.toArray⟩, .bool F.val.feed] 38)) := hb.out.alloc hb.out.size _
      have hsW := hs.below ((Below.refl _ wr).alloc (Nat.le_refl _) (.cells #[.string ⟨F.key.toArray⟩, .slice B F.val.ps.length c', .string ⟨F.val.bl.toArray⟩, .bool F.val.feed] 38))
      have hts := textR_le F.val.feed (well_bl hwF) F.val.ps
      have hwd : F.val.wt = wtS F.val.ps + F.val.bl.length + 1 := rfl
      have HB1 := Lib.hid (And.intro hb1 hsW)
      have htl : (textR F.val.bl F.val.feed F.val.ps).length ≤ 24117248 := by omega
      have HT := Lib.hid (fun W (hW : Below (wr.alloc (.cells #[.string ⟨F.key.toArray⟩, .slice B F.val.ps.length c', .string ⟨F.val.bl.toArray⟩, .bool F.val.feed] 38)).heap.size (wr.alloc (.cells #[.string ⟨F.key.toArray⟩, .slice B F.val.ps.length c', .string ⟨F.val.bl.toArray⟩, .bool F.val.feed] 38)) W) => longText_any F.val B c' W (HB1.out.2.below hW) (by omega) hlen.2.2.1)
      have hft : fieldT F = F.key ++ ([58, 32] ++ textR F.val.bl F.val.feed F.val.ps) := rfl
      rw [hft] at hsn hle2
      have hbk1 := hbF.1
      have HS := Lib.hid hsn
      clear hs hlen hx hF hb1 hsW hts hwd hft hsn hwF hbF hT
      go_wp2_with (fail)
      have hBk := Blk.new wr #[.string ⟨F.key.toArray⟩, .slice B F.val.ps.length c', .string ⟨F.val.bl.toArray⟩, .bool F.val.feed] 38
      have e0 := hBk.cell 0
      have e1 := hBk.cell 1
      have e2 := hBk.cell 2
      have e3 := hBk.cell 3
      have HL := Lib.hid hBk.lt
      clear hBk c0 c1 c2
      replace e0 : (wr.alloc (.cells #[.string ⟨F.key.toArray⟩, .slice B F.val.ps.length c', .string ⟨F.val.bl.toArray⟩, .bool F.val.feed] 38)).cell? ⟨wr.heap.size, 0, none⟩ = some (.string ⟨F.key.toArray⟩) := e0
      replace e1 : (wr.alloc (.cells #[.string ⟨F.key.toArray⟩, .slice B F.val.ps.length c', .string ⟨F.val.bl.toArray⟩, .bool F.val.feed] 38)).cell? ⟨wr.heap.size, 1, none⟩ = some (.slice B F.val.ps.length c') := e1
      replace e2 : (wr.alloc (.cells #[.string ⟨F.key.toArray⟩, .slice B F.val.ps.length c', .string ⟨F.val.bl.toArray⟩, .bool F.val.feed] 38)).cell? ⟨wr.heap.size, 2, none⟩ = some (.string ⟨F.val.bl.toArray⟩) := e2
      replace e3 : (wr.alloc (.cells #[.string ⟨F.key.toArray⟩, .slice B F.val.ps.length c', .string ⟨F.val.bl.toArray⟩, .bool F.val.feed] 38)).cell? ⟨wr.heap.size, 3, none⟩ = some (.bool F.val.feed) := e3
      have hsz := hb.out.size
      generalize wr.alloc (.cells #[.string ⟨F.key.toArray⟩, .slice B F.val.ps.length c', .string ⟨F.val.bl.toArray⟩, .bool F.val.feed] 38) = W1 at e0 e1 e2 e3 HL HB1 HT ⊢
      generalize wr.heap.size = gb at e0 e1 e2 e3 HL ⊢
      generalize textR F.val.bl F.val.feed F.val.ps = tx at HT HS htl hle2
      simp only [List.length_append, List.length_cons, List.length_nil] at hle2
      go_region_with (first | (go_at_call 15; refine (HT.out _ ((Below.refl _ W1).drew)).mono ?_; rintro e w3 ⟨rfl, hb3⟩; have k0 : w3.cell? ⟨gb, 0, none⟩ = some (.string ⟨F.key.toArray⟩) := (hb3.cell (p := ⟨gb, 0, none⟩) HL.out).trans e0; have H3 := Lib.hid hb3; clear hb3))
      all_goals
        go_wp2
        go_roundg (gk - 1)
        case measure => omega
        case rel => exact ⟨k + 1, T ++ (F.key ++ ([58, 32] ++ tx)), by omega, by go_num, by simp, by simp only [List.length_append, List.length_cons, List.length_nil]; omega, Lib.hid HS.out.symm, Lib.hid (HB1.out.1.trans (((Below.refl _ _).drew.trans H3.out).mono HB1.out.1.size))⟩
    · have hTe := hT.out
      rw [List.take_of_length_le (by omega)] at hTe
      subst hTe
      clear hT
      go_wp2
      go_ret
      exact ⟨rfl, hb.out⟩
end Go.Proofs.YtilhgjcjofobeaaDoor
