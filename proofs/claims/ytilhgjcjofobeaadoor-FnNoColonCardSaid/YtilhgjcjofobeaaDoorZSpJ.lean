/- The walk of the reference's Fields. -/
import Derived.Test.YtilhgjcjofobeaaDoorZTxW
import Derived.Deep.RegionHeld3
namespace Go.Proofs.YtilhgjcjofobeaaDoor
open Go.RowKit

/-- A field that the reference takes. -/
def okF (F : FieldR) : Bool := goodF F && decide (F.key.length + (textR F.val.bl F.val.feed F.val.ps).length ≤ 998)
set_option maxRecDepth 200000 in
set_option maxHeartbeats 3200000 in
theorem fields_any {w : World} {A : Option Addr} {n c : Nat} {Fs : List FieldR} (hr : FL w A Fs) (hn : n = Fs.length) (hl : ∀ F ∈ Fs, F.len) (hbk : ∀ F ∈ Fs, F.key.length ≤ 2147483647 ∧ (wellB F.val = true → (textR F.val.bl F.val.feed F.val.ps).length ≤ 4700000000000000000)) (hm : Fs.length ≤ 9223372036854775807) :
    Calls Tryd.prog 6 #[.slice A n c] w fun e w' => e = .returned (.bool (Fs.all okF && decide (Fs.length ≤ 100))) ∧ Below w.heap.size w w' := by
  subst hn
  have HX := Lib.hid (And.intro hr (And.intro hl hbk))
  clear hr hl hbk
  go_enter Tryd.func6, Tryd.ntmps6
  go_wp2
  go_loopg [4, 7] Fs.length (fun gk _ i wr => ∃ k : Nat, k + gk = Fs.length ∧ i = .int .i64 k ∧ Hid ((Fs.take k).all okF = true) ∧ Hid (Below w.heap.size w wr))
  case atStart => exact ⟨0, by omega, rfl, Lib.hid rfl, Lib.hid (Below.refl _ _)⟩
  case round =>
    obtain ⟨k, hk, rfl, hcl, hb⟩ := hrel
    by_cases hlt : k < Fs.length
    · obtain ⟨g, o, rfl, hx⟩ := HX.out.1 (by rintro rfl; simp at hlt)
      obtain ⟨F, hF⟩ : ∃ F, F = Fs[k] := ⟨_, rfl⟩
      have hat := (hx k F (by rw [hF]; exact List.getElem?_eq_getElem hlt)).below hb.out
      have hlen := HX.out.2.1 F (by rw [hF]; exact List.getElem_mem hlt)
      have hbkF := HX.out.2.2 F (by rw [hF]; exact List.getElem_mem hlt)
      have hsn := all_snoc okF Fs k hlt
      have hbd := all_bad okF Fs k hlt
      rw [← hF] at hsn hbd
      obtain ⟨ck, B, c', c0, c1, c2, hs⟩ := hat
      have HS := Lib.hid (And.intro hs (And.intro hlen (And.intro hbkF (And.intro hsn hbd))))
      clear hs hlen hbkF hsn hbd hx hF
      have hb1 : Below w.heap.size w (wr.alloc (.cells #[.string ⟨F.key.toArray⟩, .slice B F.val.ps.length c', .string ⟨F.val.bl.toArray⟩, .bool F.val.feed] 38)) := hb.out.alloc hb.out.size _
      have hsW := HS.out.1.below ((Below.refl _ wr).alloc (Nat.le_refl _) (.cells #[.string ⟨F.key.toArray⟩, .slice B F.val.ps.length c', .string ⟨F.val.bl.toArray⟩, .bool F.val.feed] 38))
      have HB1 := Lib.hid (And.intro hb1 hsW)
      clear hb1 hsW
      go_wp2_with (fail)
      have hBk := Blk.new wr #[.string ⟨F.key.toArray⟩, .slice B F.val.ps.length c', .string ⟨F.val.bl.toArray⟩, .bool F.val.feed] 38
      have e0 := hBk.cell 0
      have e1 := hBk.cell 1
      have e2 := hBk.cell 2
      have e3 := hBk.cell 3
      have HL := Lib.hid hBk.lt
      clear hBk c0 c1 c2
      replace e0 : (wr.alloc (.cells #[.string ⟨F.key.toArray⟩, .slice B F.val.ps.length c', .string ⟨F.val.bl.toArray⟩, .bool F.val.feed] 38)).cell? ⟨wr.heap.size, 0, none⟩ = some (.string ⟨F.key.toArray⟩) := e0
      replace e1 : (wr.alloc (.cells #[.string ⟨F.key.toArray⟩, .slice B F.val.ps.length c', .string ⟨F.val.bl.toArray⟩, .bool F.val.feed] 38)).cell? ⟨wr.heap.size, 1, none⟩ = some (.slice B F.val.ps.length c') := e1
      replace e2 : (wr.alloc (.cells #[.string ⟨F.key.toArray⟩, .slice B F.val.ps.length c', .string ⟨F.val.bl.toArray⟩, .bool F.val.feed] 38)).cell? ⟨wr.heap.size, 2, none⟩ = some (.string ⟨F.val.bl.toArray⟩) := e2
      replace e3 : (wr.alloc (.cells #[.string ⟨F.key.toArray⟩, .slice B F.val.ps.length c', .string ⟨F.val.bl.toArray⟩, .bool F.val.feed] 38)).cell? ⟨wr.heap.size, 3, none⟩ = some (.bool F.val.feed) := e3
      have hsz := hb.out.size
      generalize wr.alloc (.cells #[.string ⟨F.key.toArray⟩, .slice B F.val.ps.length c', .string ⟨F.val.bl.toArray⟩, .bool F.val.feed] 38) = W1 at e0 e1 e2 e3 HL HB1 ⊢
      generalize wr.heap.size = gb at e0 e1 e2 e3 HL ⊢
      have HK := Lib.hid (fun W => key_any F.key HS.out.2.1.1 W)
      rcases hkb : (keyB F.key && !F.key.isEmpty) with _ | _
      · have hbad : okF F = false := by unfold okF goodF; rw [hkb]; rfl
        have HBD := Lib.hid (HS.out.2.2.2.2 hbad)
        rw [hkb] at HK
        clear hbad hkb
        refine wp_region_held_drew (S := (fun wx => wx.cell? ⟨gb, 0, none⟩ = some (.string ⟨F.key.toArray⟩))) (by kernel_rfl) e0 (fun hHeld => ?_)
        refine wpAnyH_take (i := 0) (v := ?vk0x1) rfl (by kernel_rfl) (by kernel_rfl) (by kernel_rfl) (fun _ _ _ h => h) (Or.inl ⟨by rfl, ?hk0x1⟩) (by assumption) ?rk0x1
        case hk0x1 => (intro w hSw; (try dsimp only at hSw); go_simp; (try with_reducible rfl))
        (try simp only [List.getElem_toArray, List.getElem_cons_zero, Act.put, List.setIfInBounds_toArray, List.set_cons_zero, List.set_cons_succ])
        refine wpAnyH_take (i := 1) (v := ?vk1x2) rfl (by kernel_rfl) (by kernel_rfl) (by kernel_rfl) (fun _ _ _ h => h) (Or.inl ⟨by rfl, ?hk1x2⟩) (by assumption) ?rk1x2
        case hk1x2 => (intro w hSw; (try dsimp only at hSw); go_simp; (try with_reducible rfl))
        (try simp only [List.getElem_toArray, List.getElem_cons_succ, List.getElem_cons_zero, Act.put, List.setIfInBounds_toArray, List.set_cons_zero, List.set_cons_succ])
        refine wpAnyH_ready (rs := [2]) (by kernel_rfl) (by simp) ?_
        refine AllReadyH.cons rfl (fun K hK => ?_) AllReadyH.nil
        go_simp
        go_wp2_with (go_at_call 13; refine (HK.out _).mono ?_; rintro e w2 ⟨rfl, rfl⟩)
        refine hK.out _ _ hHeld (fun _ => ?_)
        clear hK K
        (try simp only [List.getElem_toArray, List.getElem_cons_succ, List.getElem_cons_zero, Act.put, List.setIfInBounds_toArray, List.set_cons_zero, List.set_cons_succ])
        refine wpAnyH_take (i := 3) (v := ?vk3x3) rfl (by kernel_rfl) (by kernel_rfl) (by kernel_rfl) (fun _ _ _ h => h) (Or.inl ⟨by rfl, ?hk3x3⟩) (by assumption) ?rk3x3
        case hk3x3 => (intro w hSw; (try dsimp only at hSw); go_simp; (try with_reducible rfl))
        (try simp only [List.getElem_toArray, List.getElem_cons_succ, List.getElem_cons_zero, Act.put, List.setIfInBounds_toArray, List.set_cons_zero, List.set_cons_succ])
        refine wpAnyH_take (i := 4) (v := ?vk4x4) rfl (by kernel_rfl) (by kernel_rfl) (by kernel_rfl) (fun _ _ _ h => h) (Or.inl ⟨by rfl, ?hk4x4⟩) (by assumption) ?rk4x4
        case hk4x4 => (intro w hSw; (try dsimp only at hSw); go_simp; (try with_reducible rfl))
        (try simp only [List.getElem_toArray, List.getElem_cons_succ, List.getElem_cons_zero, Act.put, List.setIfInBounds_toArray, List.set_cons_zero, List.set_cons_succ])
        refine wpAnyH_take (i := 5) (v := undef) rfl (by kernel_rfl) (by kernel_rfl) (by kernel_rfl) (fun _ _ _ h => h) (Or.inr ⟨by rfl, rfl⟩) (by assumption) ?rk5x5
        (try simp only [List.getElem_toArray, List.getElem_cons_succ, List.getElem_cons_zero, Act.put, List.setIfInBounds_toArray, List.set_cons_zero, List.set_cons_succ])
        refine wpAnyH_take (i := 6) (v := undef) rfl (by kernel_rfl) (by kernel_rfl) (by kernel_rfl) (fun _ _ _ h => h) (Or.inr ⟨by rfl, rfl⟩) (by assumption) ?rk6x6
        (try simp only [List.getElem_toArray, List.getElem_cons_succ, List.getElem_cons_zero, Act.put, List.setIfInBounds_toArray, List.set_cons_zero, List.set_cons_succ])
        refine wpAnyH_take (i := 7) (v := undef) rfl (by kernel_rfl) (by kernel_rfl) (by kernel_rfl) (fun _ _ _ h => h) (Or.inr ⟨by rfl, rfl⟩) (by assumption) ?rk7x7
        (try simp only [List.getElem_toArray, List.getElem_cons_succ, List.getElem_cons_zero, Act.put, List.setIfInBounds_toArray, List.set_cons_zero, List.set_cons_succ])
        refine wpAnyH_take (i := 8) (v := undef) rfl (by kernel_rfl) (by kernel_rfl) (by kernel_rfl) (fun _ _ _ h => h) (Or.inr ⟨by rfl, rfl⟩) (by assumption) ?rk8x8
        (try simp only [List.getElem_toArray, List.getElem_cons_succ, List.getElem_cons_zero, Act.put, List.setIfInBounds_toArray, List.set_cons_zero, List.set_cons_succ])
        refine wpAnyH_take (i := 9) (v := ?vk9x9) rfl (by kernel_rfl) (by kernel_rfl) (by kernel_rfl) (fun _ _ _ h => h) (Or.inl ⟨by rfl, ?hk9x9⟩) (by assumption) ?rk9x9
        case hk9x9 => (intro w hSw; (try dsimp only at hSw); go_simp; (try with_reducible rfl))
        (try simp only [List.getElem_toArray, List.getElem_cons_succ, List.getElem_cons_zero, Act.put, List.setIfInBounds_toArray, List.set_cons_zero, List.set_cons_succ])
        refine wpAnyH_take (i := 10) (v := ?vk10x10) rfl (by kernel_rfl) (by kernel_rfl) (by kernel_rfl) (fun _ _ _ h => h) (Or.inl ⟨by rfl, ?hk10x10⟩) (by assumption) ?rk10x10
        case hk10x10 => (intro w hSw; (try dsimp only at hSw); go_simp; (try with_reducible rfl))
        (try simp only [List.getElem_toArray, List.getElem_cons_succ, List.getElem_cons_zero, Act.put, List.setIfInBounds_toArray, List.set_cons_zero, List.set_cons_succ])
        refine wpAnyH_take (i := 11) (v := undef) rfl (by kernel_rfl) (by kernel_rfl) (by kernel_rfl) (fun _ _ _ h => h) (Or.inr ⟨by rfl, rfl⟩) (by assumption) ?rk11x11
        (try simp only [List.getElem_toArray, List.getElem_cons_succ, List.getElem_cons_zero, Act.put, List.setIfInBounds_toArray, List.set_cons_zero, List.set_cons_succ])
        refine wpAnyH_take (i := 12) (v := undef) rfl (by kernel_rfl) (by kernel_rfl) (by kernel_rfl) (fun _ _ _ h => h) (Or.inr ⟨by rfl, rfl⟩) (by assumption) ?rk12x12
        (try simp only [List.getElem_toArray, List.getElem_cons_succ, List.getElem_cons_zero, Act.put, List.setIfInBounds_toArray, List.set_cons_zero, List.set_cons_succ])
        refine wpAnyH_take (i := 13) (v := undef) rfl (by kernel_rfl) (by kernel_rfl) (by kernel_rfl) (fun _ _ _ h => h) (Or.inr ⟨by rfl, rfl⟩) (by assumption) ?rk13x13
        (try simp only [List.getElem_toArray, List.getElem_cons_succ, List.getElem_cons_zero, Act.put, List.setIfInBounds_toArray, List.set_cons_zero, List.set_cons_succ])
        refine wpAnyH_take (i := 14) (v := undef) rfl (by kernel_rfl) (by kernel_rfl) (by kernel_rfl) (fun _ _ _ h => h) (Or.inr ⟨by rfl, rfl⟩) (by assumption) ?rk14x14
        (try simp only [List.getElem_toArray, List.getElem_cons_succ, List.getElem_cons_zero, Act.put, List.setIfInBounds_toArray, List.set_cons_zero, List.set_cons_succ])
        refine wpAnyH_take (i := 15) (v := undef) rfl (by kernel_rfl) (by kernel_rfl) (by kernel_rfl) (fun _ _ _ h => h) (Or.inr ⟨by rfl, rfl⟩) (by assumption) ?rk15x15
        (try simp only [List.getElem_toArray, List.getElem_cons_succ, List.getElem_cons_zero, Act.put, List.setIfInBounds_toArray, List.set_cons_zero, List.set_cons_succ])
        refine wpAnyH_take (i := 16) (v := undef) rfl (by kernel_rfl) (by kernel_rfl) (by kernel_rfl) (fun _ _ _ h => h) (Or.inr ⟨by rfl, rfl⟩) (by assumption) ?rk16x16
        (try simp only [List.getElem_toArray, List.getElem_cons_succ, List.getElem_cons_zero, Act.put, List.setIfInBounds_toArray, List.set_cons_zero, List.set_cons_succ])
        refine wpAnyH_take (i := 17) (v := undef) rfl (by kernel_rfl) (by kernel_rfl) (by kernel_rfl) (fun _ _ _ h => h) (Or.inr ⟨by rfl, rfl⟩) (by assumption) ?rk17x17
        (try simp only [List.getElem_toArray, List.getElem_cons_succ, List.getElem_cons_zero, Act.put, List.setIfInBounds_toArray, List.set_cons_zero, List.set_cons_succ])
        refine wpAnyH_take (i := 18) (v := undef) rfl (by kernel_rfl) (by kernel_rfl) (by kernel_rfl) (fun _ _ _ h => h) (Or.inr ⟨by rfl, rfl⟩) (by assumption) ?rk18x18
        (try simp only [List.getElem_toArray, List.getElem_cons_succ, List.getElem_cons_zero, Act.put, List.setIfInBounds_toArray, List.set_cons_zero, List.set_cons_succ])
        refine wpAnyH_take (i := 19) (v := undef) rfl (by kernel_rfl) (by kernel_rfl) (by kernel_rfl) (fun _ _ _ h => h) (Or.inr ⟨by rfl, rfl⟩) (by assumption) ?rk19x19
        (try simp only [List.getElem_toArray, List.getElem_cons_succ, List.getElem_cons_zero, Act.put, List.setIfInBounds_toArray, List.set_cons_zero, List.set_cons_succ])
        refine wpAnyH_take (i := 20) (v := ?vk20x20) rfl (by kernel_rfl) (by kernel_rfl) (by kernel_rfl) (fun _ _ _ h => h) (Or.inl ⟨by rfl, ?hk20x20⟩) (by assumption) ?rk20x20
        case hk20x20 => (intro w hSw; (try dsimp only at hSw); go_simp; (try with_reducible rfl))
        (try simp only [List.getElem_toArray, List.getElem_cons_succ, List.getElem_cons_zero, Act.put, List.setIfInBounds_toArray, List.set_cons_zero, List.set_cons_succ])
        refine wpAnyH_done (by kernel_rfl) ?_ _
        go_wp2
        go_ret
        exact ⟨ret_bool (by rw [HBD.out]; rfl), HB1.out.1.drew⟩
      · have HW := Lib.hid (fun W (hW : Below W1.heap.size W1 W) => well_any F.val HS.out.2.1.2 B c' W (HB1.out.2.below hW))
        rcases hwb : wellB F.val with _ | _
        · have hbad : okF F = false := by unfold okF goodF; rw [hwb, Bool.and_false]; rfl
          have HBD := Lib.hid (HS.out.2.2.2.2 hbad)
          rw [hkb] at HK
          rw [hwb] at HW
          clear hbad hkb hwb
          refine wp_region_held_drew (S := (fun wx => wx.cell? ⟨gb, 0, none⟩ = some (.string ⟨F.key.toArray⟩) ∧ wx.cell? ⟨gb, 1, none⟩ = some (.slice B F.val.ps.length c') ∧ wx.cell? ⟨gb, 2, none⟩ = some (.string ⟨F.val.bl.toArray⟩) ∧ wx.cell? ⟨gb, 3, none⟩ = some (.bool F.val.feed))) (by kernel_rfl) ⟨e0, e1, e2, e3⟩ (fun hHeld => ?_)
          refine wpAnyH_take (i := 0) (v := ?vw0x1) rfl (by kernel_rfl) (by kernel_rfl) (by kernel_rfl) (fun _ _ _ h => h) (Or.inl ⟨by rfl, ?hw0x1⟩) (by assumption) ?rw0x1
          case hw0x1 => (intro w hSw; (try dsimp only at hSw); obtain ⟨hS0, hS1, hS2, hS3⟩ := hSw; go_simp; (try with_reducible rfl))
          (try simp only [List.getElem_toArray, List.getElem_cons_zero, Act.put, List.setIfInBounds_toArray, List.set_cons_zero, List.set_cons_succ])
          refine wpAnyH_take (i := 1) (v := ?vw1x2) rfl (by kernel_rfl) (by kernel_rfl) (by kernel_rfl) (fun _ _ _ h => h) (Or.inl ⟨by rfl, ?hw1x2⟩) (by assumption) ?rw1x2
          case hw1x2 => (intro w hSw; (try dsimp only at hSw); obtain ⟨hS0, hS1, hS2, hS3⟩ := hSw; go_simp; (try with_reducible rfl))
          (try simp only [List.getElem_toArray, List.getElem_cons_succ, List.getElem_cons_zero, Act.put, List.setIfInBounds_toArray, List.set_cons_zero, List.set_cons_succ])
          refine wpAnyH_ready (rs := [2]) (by kernel_rfl) (by simp) ?_
          refine AllReadyH.cons rfl (fun K hK => ?_) AllReadyH.nil
          go_simp
          go_wp2_with (go_at_call 13; refine (HK.out _).mono ?_; rintro e w2 ⟨rfl, rfl⟩)
          refine hK.out _ _ hHeld (fun _ => ?_)
          clear hK K
          (try simp only [List.getElem_toArray, List.getElem_cons_succ, List.getElem_cons_zero, Act.put, List.setIfInBounds_toArray, List.set_cons_zero, List.set_cons_succ])
          refine wpAnyH_take (i := 3) (v := ?vw3x3) rfl (by kernel_rfl) (by kernel_rfl) (by kernel_rfl) (fun _ _ _ h => h) (Or.inl ⟨by rfl, ?hw3x3⟩) (by assumption) ?rw3x3
          case hw3x3 => (intro w hSw; (try dsimp only at hSw); obtain ⟨hS0, hS1, hS2, hS3⟩ := hSw; go_simp; (try with_reducible rfl))
          (try simp only [List.getElem_toArray, List.getElem_cons_succ, List.getElem_cons_zero, Act.put, List.setIfInBounds_toArray, List.set_cons_zero, List.set_cons_succ])
          refine wpAnyH_take (i := 4) (v := ?vw4x4) rfl (by kernel_rfl) (by kernel_rfl) (by kernel_rfl) (fun _ _ _ h => h) (Or.inl ⟨by rfl, ?hw4x4⟩) (by assumption) ?rw4x4
          case hw4x4 => (intro w hSw; (try dsimp only at hSw); obtain ⟨hS0, hS1, hS2, hS3⟩ := hSw; go_simp; (try with_reducible rfl))
          (try simp only [List.getElem_toArray, List.getElem_cons_succ, List.getElem_cons_zero, Act.put, List.setIfInBounds_toArray, List.set_cons_zero, List.set_cons_succ])
          refine wpAnyH_take (i := 5) (v := ?vw5x5) rfl (by kernel_rfl) (by kernel_rfl) (by kernel_rfl) (fun _ _ _ h => h) (Or.inl ⟨by rfl, ?hw5x5⟩) (by assumption) ?rw5x5
          case hw5x5 => (intro w hSw; (try dsimp only at hSw); obtain ⟨hS0, hS1, hS2, hS3⟩ := hSw; go_simp; (try with_reducible rfl))
          (try simp only [List.getElem_toArray, List.getElem_cons_succ, List.getElem_cons_zero, Act.put, List.setIfInBounds_toArray, List.set_cons_zero, List.set_cons_succ])
          refine wpAnyH_take (i := 6) (v := ?vw6x6) rfl (by kernel_rfl) (by kernel_rfl) (by kernel_rfl) (fun _ _ _ h => h) (Or.inl ⟨by rfl, ?hw6x6⟩) (by assumption) ?rw6x6
          case hw6x6 => (intro w hSw; (try dsimp only at hSw); obtain ⟨hS0, hS1, hS2, hS3⟩ := hSw; go_simp; (try with_reducible rfl))
          (try simp only [List.getElem_toArray, List.getElem_cons_succ, List.getElem_cons_zero, Act.put, List.setIfInBounds_toArray, List.set_cons_zero, List.set_cons_succ])
          refine wpAnyH_ready (rs := [7]) (by kernel_rfl) (by simp) ?_
          refine AllReadyH.cons rfl (fun K hK => ?_) AllReadyH.nil
          go_simp
          go_wp2_with (go_at_call 14; refine (HW.out _ ((Below.refl _ _).drew)).mono ?_; rintro e w3 ⟨rfl, hb3⟩)
          refine hK.out _ _ ⟨(hb3.cell (p := ⟨gb, 0, none⟩) HL.out).trans e0, (hb3.cell (p := ⟨gb, 1, none⟩) HL.out).trans e1, (hb3.cell (p := ⟨gb, 2, none⟩) HL.out).trans e2, (hb3.cell (p := ⟨gb, 3, none⟩) HL.out).trans e3⟩ (fun _ => ?_)
          clear hK K
          (try simp only [List.getElem_toArray, List.getElem_cons_succ, List.getElem_cons_zero, Act.put, List.setIfInBounds_toArray, List.set_cons_zero, List.set_cons_succ])
          refine wpAnyH_take (i := 8) (v := ?vw8x7) rfl (by kernel_rfl) (by kernel_rfl) (by kernel_rfl) (fun _ _ _ h => h) (Or.inl ⟨by rfl, ?hw8x7⟩) (by assumption) ?rw8x7
          case hw8x7 => (intro w hSw; (try dsimp only at hSw); obtain ⟨hS0, hS1, hS2, hS3⟩ := hSw; go_simp; (try with_reducible rfl))
          (try simp only [List.getElem_toArray, List.getElem_cons_succ, List.getElem_cons_zero, Act.put, List.setIfInBounds_toArray, List.set_cons_zero, List.set_cons_succ])
          refine wpAnyH_take (i := 9) (v := ?vw9x8) rfl (by kernel_rfl) (by kernel_rfl) (by kernel_rfl) (fun _ _ _ h => h) (Or.inl ⟨by rfl, ?hw9x8⟩) (by assumption) ?rw9x8
          case hw9x8 => (intro w hSw; (try dsimp only at hSw); obtain ⟨hS0, hS1, hS2, hS3⟩ := hSw; go_simp; (try with_reducible rfl))
          (try simp only [List.getElem_toArray, List.getElem_cons_succ, List.getElem_cons_zero, Act.put, List.setIfInBounds_toArray, List.set_cons_zero, List.set_cons_succ])
          refine wpAnyH_take (i := 10) (v := ?vw10x9) rfl (by kernel_rfl) (by kernel_rfl) (by kernel_rfl) (fun _ _ _ h => h) (Or.inl ⟨by rfl, ?hw10x9⟩) (by assumption) ?rw10x9
          case hw10x9 => (intro w hSw; (try dsimp only at hSw); obtain ⟨hS0, hS1, hS2, hS3⟩ := hSw; go_simp; (try with_reducible rfl))
          (try simp only [List.getElem_toArray, List.getElem_cons_succ, List.getElem_cons_zero, Act.put, List.setIfInBounds_toArray, List.set_cons_zero, List.set_cons_succ])
          refine wpAnyH_take (i := 11) (v := undef) rfl (by kernel_rfl) (by kernel_rfl) (by kernel_rfl) (fun _ _ _ h => h) (Or.inr ⟨by rfl, rfl⟩) (by assumption) ?rw11x10
          (try simp only [List.getElem_toArray, List.getElem_cons_succ, List.getElem_cons_zero, Act.put, List.setIfInBounds_toArray, List.set_cons_zero, List.set_cons_succ])
          refine wpAnyH_take (i := 12) (v := undef) rfl (by kernel_rfl) (by kernel_rfl) (by kernel_rfl) (fun _ _ _ h => h) (Or.inr ⟨by rfl, rfl⟩) (by assumption) ?rw12x11
          (try simp only [List.getElem_toArray, List.getElem_cons_succ, List.getElem_cons_zero, Act.put, List.setIfInBounds_toArray, List.set_cons_zero, List.set_cons_succ])
          refine wpAnyH_take (i := 13) (v := undef) rfl (by kernel_rfl) (by kernel_rfl) (by kernel_rfl) (fun _ _ _ h => h) (Or.inr ⟨by rfl, rfl⟩) (by assumption) ?rw13x12
          (try simp only [List.getElem_toArray, List.getElem_cons_succ, List.getElem_cons_zero, Act.put, List.setIfInBounds_toArray, List.set_cons_zero, List.set_cons_succ])
          refine wpAnyH_take (i := 14) (v := undef) rfl (by kernel_rfl) (by kernel_rfl) (by kernel_rfl) (fun _ _ _ h => h) (Or.inr ⟨by rfl, rfl⟩) (by assumption) ?rw14x13
          (try simp only [List.getElem_toArray, List.getElem_cons_succ, List.getElem_cons_zero, Act.put, List.setIfInBounds_toArray, List.set_cons_zero, List.set_cons_succ])
          refine wpAnyH_take (i := 15) (v := undef) rfl (by kernel_rfl) (by kernel_rfl) (by kernel_rfl) (fun _ _ _ h => h) (Or.inr ⟨by rfl, rfl⟩) (by assumption) ?rw15x14
          (try simp only [List.getElem_toArray, List.getElem_cons_succ, List.getElem_cons_zero, Act.put, List.setIfInBounds_toArray, List.set_cons_zero, List.set_cons_succ])
          refine wpAnyH_take (i := 16) (v := undef) rfl (by kernel_rfl) (by kernel_rfl) (by kernel_rfl) (fun _ _ _ h => h) (Or.inr ⟨by rfl, rfl⟩) (by assumption) ?rw16x15
          (try simp only [List.getElem_toArray, List.getElem_cons_succ, List.getElem_cons_zero, Act.put, List.setIfInBounds_toArray, List.set_cons_zero, List.set_cons_succ])
          refine wpAnyH_take (i := 17) (v := undef) rfl (by kernel_rfl) (by kernel_rfl) (by kernel_rfl) (fun _ _ _ h => h) (Or.inr ⟨by rfl, rfl⟩) (by assumption) ?rw17x16
          (try simp only [List.getElem_toArray, List.getElem_cons_succ, List.getElem_cons_zero, Act.put, List.setIfInBounds_toArray, List.set_cons_zero, List.set_cons_succ])
          refine wpAnyH_take (i := 18) (v := undef) rfl (by kernel_rfl) (by kernel_rfl) (by kernel_rfl) (fun _ _ _ h => h) (Or.inr ⟨by rfl, rfl⟩) (by assumption) ?rw18x17
          (try simp only [List.getElem_toArray, List.getElem_cons_succ, List.getElem_cons_zero, Act.put, List.setIfInBounds_toArray, List.set_cons_zero, List.set_cons_succ])
          refine wpAnyH_take (i := 19) (v := undef) rfl (by kernel_rfl) (by kernel_rfl) (by kernel_rfl) (fun _ _ _ h => h) (Or.inr ⟨by rfl, rfl⟩) (by assumption) ?rw19x18
          (try simp only [List.getElem_toArray, List.getElem_cons_succ, List.getElem_cons_zero, Act.put, List.setIfInBounds_toArray, List.set_cons_zero, List.set_cons_succ])
          refine wpAnyH_take (i := 20) (v := ?vw20x19) rfl (by kernel_rfl) (by kernel_rfl) (by kernel_rfl) (fun _ _ _ h => h) (Or.inl ⟨by rfl, ?hw20x19⟩) (by assumption) ?rw20x19
          case hw20x19 => (intro w hSw; (try dsimp only at hSw); obtain ⟨hS0, hS1, hS2, hS3⟩ := hSw; go_simp; (try with_reducible rfl))
          (try simp only [List.getElem_toArray, List.getElem_cons_succ, List.getElem_cons_zero, Act.put, List.setIfInBounds_toArray, List.set_cons_zero, List.set_cons_succ])
          refine wpAnyH_done (by kernel_rfl) ?_ _
          go_wp2
          go_ret
          exact ⟨ret_bool (by rw [HBD.out]; rfl), HB1.out.1.trans (((Below.refl _ _).drew.trans hb3).mono (HB1.out.1.size))⟩
        · have htl : (textR F.val.bl F.val.feed F.val.ps).length ≤ 4700000000000000000 := HS.out.2.2.1.2 hwb
          have HT := Lib.hid (fun W (hW : Below W1.heap.size W1 W) => longTextW_any F.val B c' W (HB1.out.2.below hW) htl HS.out.2.1.2.2.1)
          have hok : okF F = decide (F.key.length + (textR F.val.bl F.val.feed F.val.ps).length ≤ 998) := by unfold okF goodF; rw [hkb, hwb]; rfl
          have hkl := HS.out.2.2.1.1
          have HBD := Lib.hid (And.intro HS.out.2.2.2.2 (And.intro HS.out.2.2.2.1 hok))
          rw [hkb] at HK
          rw [hwb] at HW
          clear hkb hwb hok
          generalize textR F.val.bl F.val.feed F.val.ps = tx at HT HBD htl
          have hwr : IntKind.i64.wrap ((F.key.length : Int) + (tx.length : Int)) = (F.key.length : Int) + (tx.length : Int) := by rw [IntKind.wrap_i64]; omega
          go_region_held3 (fun wx => wx.cell? ⟨gb, 0, none⟩ = some (.string ⟨F.key.toArray⟩) ∧ wx.cell? ⟨gb, 1, none⟩ = some (.slice B F.val.ps.length c') ∧ wx.cell? ⟨gb, 2, none⟩ = some (.string ⟨F.val.bl.toArray⟩) ∧ wx.cell? ⟨gb, 3, none⟩ = some (.bool F.val.feed))
            (first | go_keep | (exact ⟨(hb3.cell (p := ⟨gb, 0, none⟩) HL.out).trans e0, (hb3.cell (p := ⟨gb, 1, none⟩) HL.out).trans e1, (hb3.cell (p := ⟨gb, 2, none⟩) HL.out).trans e2, (hb3.cell (p := ⟨gb, 3, none⟩) HL.out).trans e3⟩) | (exact ⟨(hb4.cell (p := ⟨gb, 0, none⟩) (Nat.lt_of_lt_of_le HL.out hb3.size)).trans ((hb3.cell (p := ⟨gb, 0, none⟩) HL.out).trans e0), (hb4.cell (p := ⟨gb, 1, none⟩) (Nat.lt_of_lt_of_le HL.out hb3.size)).trans ((hb3.cell (p := ⟨gb, 1, none⟩) HL.out).trans e1), (hb4.cell (p := ⟨gb, 2, none⟩) (Nat.lt_of_lt_of_le HL.out hb3.size)).trans ((hb3.cell (p := ⟨gb, 2, none⟩) HL.out).trans e2), (hb4.cell (p := ⟨gb, 3, none⟩) (Nat.lt_of_lt_of_le HL.out hb3.size)).trans ((hb3.cell (p := ⟨gb, 3, none⟩) HL.out).trans e3)⟩))
            (first | (go_at_call 13; refine (HK.out _).mono ?_; rintro e w2 ⟨rfl, rfl⟩) | (go_at_call 14; refine (HW.out _ ((Below.refl _ _).drew)).mono ?_; rintro e w3 ⟨rfl, hb3⟩) | (go_at_call 15; refine (HT.out _ ((Below.refl _ W1).drew.trans hb3)).mono ?_; rintro e w4 ⟨rfl, hb4⟩))
          by_cases h9 : F.key.length + tx.length ≤ 998
          · have h9i : ¬ (998 : Int) < (F.key.length : Int) + (tx.length : Int) := by omega
            have hok : okF F = true := by rw [HBD.out.2.2]; exact decide_eq_true h9
            have HO := Lib.hid hok
            clear hok h9
            go_wp2
            go_roundg (gk - 1)
            case measure => omega
            case rel => exact ⟨k + 1, by omega, by go_num, Lib.hid (by rw [HBD.out.2.1, hcl.out, HO.out]; rfl), Lib.hid (HB1.out.1.trans (((Below.refl _ _).drew.trans (hb3.trans (hb4.mono hb3.size))).mono HB1.out.1.size))⟩
          · have h9i : (998 : Int) < (F.key.length : Int) + (tx.length : Int) := by omega
            have hok : okF F = false := by rw [HBD.out.2.2]; exact decide_eq_false h9
            have HO := Lib.hid (HBD.out.1 hok)
            clear hok h9
            go_wp2
            go_ret
            exact ⟨ret_bool (by rw [HO.out]; rfl), HB1.out.1.trans (((Below.refl _ _).drew.trans (hb3.trans (hb4.mono hb3.size))).mono HB1.out.1.size)⟩
    · have hall := hcl.out
      rw [List.take_of_length_le (by omega)] at hall
      have HA := Lib.hid hall
      clear hall hcl
      go_wp2
      go_ret
      exact ⟨ret_bool (by rw [HA.out, Bool.true_and]; exact decide_eq_decide.2 ⟨by omega, by omega⟩), hb.out⟩
theorem okF_wt {F : FieldR} (h : okF F = true) : F.wt ≤ 2000 := by
  unfold okF goodF at h
  simp only [Bool.and_eq_true, decide_eq_true_eq] at h
  have h1 := wtS_le_text F.val.bl F.val.feed F.val.ps
  have h2 := well_bl h.1.2
  have h3 : F.wt = F.key.length + (wtS F.val.ps + F.val.bl.length + 1) + 2 := rfl
  omega
theorem ok_sumN : ∀ (Fs : List FieldR), Fs.all okF = true → (Fs.map FieldR.wt).sum ≤ Fs.length * 2000
  | [], _ => by simp
  | F :: r, h => by
    rw [List.all_cons, Bool.and_eq_true] at h
    have h1 := okF_wt h.1
    have ih := ok_sumN r h.2
    rw [List.map_cons, List.sum_cons, List.length_cons, Nat.succ_mul]
    omega
/-- What the reference takes is short. -/
theorem ok_sum {Fs : List FieldR} (h : (Fs.all okF && decide (Fs.length ≤ 100)) = true) : (Fs.map FieldR.wt).sum ≤ 1048576 := by
  simp only [Bool.and_eq_true, decide_eq_true_eq] at h
  have := ok_sumN Fs h.1
  omega
theorem fits_all {Fs : List FieldR} (h : (decide (Fs.length ≤ 2147483647) && Fs.all fits5) = true) : ∀ F ∈ Fs, F.key.length ≤ 2147483647 ∧ (wellB F.val = true → (textR F.val.bl F.val.feed F.val.ps).length ≤ 4700000000000000000) := fun F hF => by
  simp only [Bool.and_eq_true, decide_eq_true_eq] at h
  have h1 := List.all_eq_true.1 h.2 F hF
  exact ⟨fits5_key h1, wide_text h1⟩
end Go.Proofs.YtilhgjcjofobeaaDoor
