/- The walk of the reference's Header. -/
import Derived.Test.YtilhgjcjofobeaaDoorZSpO
import Derived.Test.YtilhgjcjofobeaaDoorZC6
import Derived.Test.YtilhgjcjofobeaaDoorZCa
import Derived.Deep.RegionHeld3
import Derived.Sort.Walk0
namespace Go.Proofs.YtilhgjcjofobeaaDoor
open Go.RowKit Go.Maps

theorem addF_take (Fs : List FieldR) (k : Nat) (h : k < Fs.length) : (Fs.take (k + 1)).foldl addF (fun _ => []) = addF ((Fs.take k).foldl addF (fun _ => [])) Fs[k] := by
  rw [List.take_succ_eq_append_getElem h, List.foldl_append]
  rfl
/-- The outer loop's relation. -/
def HdLp (Fs : List FieldR) (w : World) (k : Nat) (u3 : Value) (wr : World) : Prop :=
  ∃ E, HdO wr w.heap.size u3 E ((Fs.take k).foldl addF (fun _ => [])) ∧ (∀ q, q ∈ E.map (·.1) ↔ (Fs.take k).foldl addF (fun _ => []) q ≠ []) ∧ E.length ≤ k ∧ (∀ q, ((Fs.take k).foldl addF (fun _ => []) q).length ≤ k) ∧ Below w.heap.size w wr
theorem PosAt.fresh {E : List (List UInt8 × Value)} {i : Nat} {k : List UInt8} (h : PosAt E i k) (hs : (E.map (·.1)).Pairwise (· < ·)) (hne : ∀ e, E[i]? = some e → e.1 ≠ k) : k ∉ E.map (·.1) := by
  intro hm
  obtain ⟨h1, h2⟩ := h.after hs hne
  rw [← List.take_append_drop i E, List.map_append] at hm
  rcases List.mem_append.1 hm with hm | hm
  · exact List.lt_irrefl _ (h1 k hm)
  · exact List.lt_irrefl _ (h2 k hm)
/-- The store into out[i].Values has its cell. -/
theorem HdO.store {w wb : World} {base g n cap i : Nat} {E : List (List UInt8 × Value)} {f : HdrF} {k : List UInt8} {u : Value} (h : HdO w base (.slice (some ⟨g, 0, none⟩) n cap) E f) (hi : E[i]? = some (k, u)) (hg : w.grownBy wb u.ownBlock) :
    wb.cell? ⟨g, i * 2 + 1, none⟩ = some u ∧ wb.frozen? ⟨g, i * 2 + 1, none⟩ = false := by
  have hgu : u.ownBlock ≠ some g := fun e => h.off _ (List.mem_of_getElem? hi) g e rfl
  have hglt := (h.own.lt g rfl).2
  have hb := hg.block g hglt (fun e => hgu e.symm)
  obtain ⟨A, c, h1, _, _, hkr, hsh⟩ := h.own.form
  injection h1 with h1 _ _
  obtain ⟨_, _, cur, hB, _⟩ := hsh g 0 none h1.symm
  obtain ⟨g', e1, hx⟩ := hkr (by rintro rfl; simp at hi)
  rw [← h1] at e1
  injection e1 with e1
  injection e1 with e1 _ _
  subst e1
  exact ⟨(World.cell?_of_block (a := ⟨g, i * 2 + 1, none⟩) hb).trans (hx i _ hi).2, (hB.same hb).free _⟩
theorem HdLp.next {Fs : List FieldR} {w wx : World} {k i : Nat} {F : FieldR} {f : HdrF} {E : List (List UInt8 × Value)} {v u u' : Value} {Y : List UInt8} (hi : E[i]? = some (canonOf F.key, u)) (hO : HdO wx w.heap.size v (E.set i (canonOf F.key, u')) (updF f (canonOf F.key) (f (canonOf F.key) ++ [Y])))
    (hkeys : ∀ q, q ∈ E.map (·.1) ↔ (f q ≠ [] ∨ q = canonOf F.key)) (hEl : E.length ≤ k + 1) (hfl : ∀ q, (f q).length ≤ k) (hb : Below w.heap.size w wx) (hsn : (Fs.take (k + 1)).foldl addF (fun _ => []) = addF f F) (hY : Y = saysR F.val.ps) : HdLp Fs w (k + 1) v wx := by
  subst hY
  have e1 : addF f F = updF f (canonOf F.key) (f (canonOf F.key) ++ [saysR F.val.ps]) := rfl
  refine ⟨_, by rw [hsn, e1]; exact hO, fun q => ?_, by rw [List.length_set]; exact hEl, fun q => ?_, hb⟩
  · rw [map_set_key hi, hkeys q, hsn, e1]
    by_cases e : q = canonOf F.key
    · subst e; rw [updF_same]; simp
    · rw [updF_other _ _ e]; simp [e]
  · rw [hsn, e1]
    by_cases e : q = canonOf F.key
    · subst e; rw [updF_same]; have := hfl (canonOf F.key); simp; omega
    · rw [updF_other _ _ e]; exact Nat.le_trans (hfl q) (Nat.le_succ _)
/-- What the reference's Header gives. -/
def HdSays (Fs : List FieldR) (w : World) (e : Ending) (w' : World) : Prop :=
  ∃ (A : Option Addr) (c : Nat) (E : List (List UInt8 × Value)), e = .returned (.slice A E.length c) ∧ HdO w' w.heap.size (.slice A E.length c) E (Fs.foldl addF (fun _ => [])) ∧ (∀ q, q ∈ E.map (·.1) ↔ Fs.foldl addF (fun _ => []) q ≠ []) ∧ E.length ≤ Fs.length ∧ (∀ q, (Fs.foldl addF (fun _ => []) q).length ≤ Fs.length) ∧ Below w.heap.size w w'
set_option maxRecDepth 200000 in
set_option maxHeartbeats 6400000 in
theorem specHeader_any {w : World} {A : Option Addr} {n c : Nat} {Fs : List FieldR} (hr : FL w A Fs) (hn : n = Fs.length) (hl : ∀ F ∈ Fs, F.len) (hbk : ∀ F ∈ Fs, F.key.length ≤ 1048576 ∧ F.val.wt ≤ 1048576) (hm : Fs.length ≤ 100) :
    Calls Tryd.prog 11 #[.slice A n c] w (HdSays Fs w) := by
  subst hn
  have HX := Lib.hid (And.intro hr (And.intro hl hbk))
  clear hr hl hbk
  go_enter Tryd.func11, Tryd.ntmps11
  go_wp2
  go_loopg [3, 5, 6, 7, 10] Fs.length (fun gk u3 _ _ _ i wr => ∃ k : Nat, k + gk = Fs.length ∧ i = .int .i64 k ∧ Hid (HdLp Fs w k u3 wr))
  case atStart => exact ⟨0, by omega, rfl, Lib.hid ⟨[], HdO.nil _ _ _, fun q => ⟨fun h => (by cases h), fun h => absurd rfl h⟩, Nat.le_refl _, fun q => Nat.le_refl _, Below.refl _ _⟩⟩
  case round =>
    obtain ⟨k, hk, rfl, hq⟩ := hrel
    by_cases hlt : k < Fs.length
    · obtain ⟨E, hO, hkeys, hEl, hfl, hb⟩ := hq.out
      obtain ⟨g, o, rfl, hx⟩ := HX.out.1 (by rintro rfl; simp at hlt)
      obtain ⟨F, hF⟩ : ∃ F, F = Fs[k] := ⟨_, rfl⟩
      obtain ⟨ck0, B, c', c00, c10, c20, hs⟩ := hx k F (by rw [hF]; exact List.getElem?_eq_getElem hlt)
      have ck := (hb.cell (p := ⟨g, o + k * 4, none⟩) (World.block_lt_of_cell? _ _ ck0)).trans ck0
      have c0 := (hb.cell (p := ⟨g, o + k * 4 + 1, none⟩) (World.block_lt_of_cell? _ _ c00)).trans c00
      have c1 := (hb.cell (p := ⟨g, o + k * 4 + 1 + 1, none⟩) (World.block_lt_of_cell? _ _ c10)).trans c10
      have c2 := (hb.cell (p := ⟨g, o + k * 4 + 1 + 2, none⟩) (World.block_lt_of_cell? _ _ c20)).trans c20
      clear ck0 c00 c10 c20
      have hlen := HX.out.2.1 F (by rw [hF]; exact List.getElem_mem hlt)
      have hbkF := HX.out.2.2 F (by rw [hF]; exact List.getElem_mem hlt)
      have hsn := addF_take Fs k hlt
      rw [← hF] at hsn
      obtain ⟨f, hf⟩ : ∃ f, f = (Fs.take k).foldl addF (fun _ => []) := ⟨_, rfl⟩
      rw [← hf] at hO hkeys hfl hsn
      obtain ⟨A8, c8, hu8, -⟩ := hO.own.form
      subst hu8
      have hb1 : Below w.heap.size w (wr.alloc (.cells #[.string ⟨F.key.toArray⟩, .slice B F.val.ps.length c', .string ⟨F.val.bl.toArray⟩, .bool F.val.feed] 38)) := hb.alloc hb.size _
      have hbW : Below wr.heap.size wr (wr.alloc (.cells #[.string ⟨F.key.toArray⟩, .slice B F.val.ps.length c', .string ⟨F.val.bl.toArray⟩, .bool F.val.feed] 38)) := (Below.refl _ wr).alloc (Nat.le_refl _) _
      have hsW := hs
      have hO1 := hO.below hbW
      have hsz := hb.size
      have HC := Lib.hid (fun W => specCanon_any F.key hlen.1 W)
      have HOL := Lib.hid (fun q hq => (hO.own.lt q hq).2)
      have HB1 := Lib.hid (And.intro hb1 (And.intro hsW (And.intro hO1 (And.intro hkeys (And.intro hEl (And.intro hfl (And.intro hsn (And.intro hlen (And.intro hbkF hsz)))))))))
      clear hb1 hbW hsW hO1 hO hkeys hEl hfl hsn hlen hbkF hs hx hF hf hq hb hsz
      go_wp2_with (go_at_call 26; refine (HC.out _).mono ?_; rintro e w2 ⟨rfl, hb2⟩; refine Hid.out ?_)
      have hO2 := HB1.out.2.2.1.below hb2
      have hB2 := (Blk.new wr #[.string ⟨F.key.toArray⟩, .slice B F.val.ps.length c', .string ⟨F.val.bl.toArray⟩, .bool F.val.feed] 38).same (hb2.block wr.heap.size (by simp))
      have hown8 : ∀ q, (Value.slice A8 E.length c8).ownBlock = some q → q < wr.heap.size := HOL.out
      have hbw2 : Below w.heap.size w w2 := HB1.out.1.trans (hb2.mono HB1.out.1.size)
      obtain ⟨fb, hfb⟩ : ∃ fb, fb = wr.heap.size := ⟨_, rfl⟩
      rw [← hfb] at hB2 hown8 ⊢
      have p1 : w2.cell? ⟨fb, 1, none⟩ = some (.slice B F.val.ps.length c') := hB2.cell 1
      have p2 : w2.cell? ⟨fb, 2, none⟩ = some (.string ⟨F.val.bl.toArray⟩) := hB2.cell 2
      have p3 : w2.cell? ⟨fb, 3, none⟩ = some (.bool F.val.feed) := hB2.cell 3
      have hfl2 : fb < w2.heap.size := hB2.lt
      have H2 := Lib.hid (And.intro hO2 (And.intro hB2 (And.intro hown8 (And.intro hbw2 hfl2))))
      clear hO2 hB2 hown8 hbw2 hb2 hfb c0 c1 c2 ck hfl2
      obtain ⟨gk0, hgk0⟩ : ∃ x, x = gk := ⟨_, rfl⟩
      have HK0 := Lib.hid (And.intro hk hgk0)
      clear hgk0 hk
      refine Lib.hid ?_
      go_wp2
      go_loopg [7] (E.length) (fun gj i wj => ∃ j : Nat, j + gj = E.length ∧ i = .int .i64 j ∧ wj = w2 ∧ Hid (∀ j' e, j' < j → E[j']? = some e → e.1 < canonOf F.key))
      case atStart => exact ⟨0, by omega, rfl, rfl, Lib.hid (fun j' e h => by omega)⟩
      case round =>
        obtain ⟨j, hj, rfl, hwj, hlo⟩ := hrel
        subst hwj
        have hEn : E.length ≤ 100 := by have := HB1.out.2.2.2.2.1; have := HK0.out.1; omega
        by_cases hjl : j < E.length
        · obtain ⟨e, he⟩ : ∃ e, E[j]? = some e := ⟨_, List.getElem?_eq_getElem hjl⟩
          obtain ⟨A0, cz, e0, -, -, hkr, hsh⟩ := H2.out.1.own.form
          injection e0 with ea _ ec
          subst ea
          subst ec
          obtain ⟨g8, rfl, hx8⟩ := hkr (by rintro rfl; simp at hjl)
          obtain ⟨d0, d1⟩ := hx8 j e he
          obtain ⟨ek, ev⟩ := e
          obtain ⟨Au, nu, cu, hev⟩ := H2.out.1.shape _ (List.mem_of_getElem? he)
          simp only at hev d0 d1
          subst hev
          clear hkr hsh hx8
          have hless := bytesLess_eq ek (canonOf F.key)
          by_cases hlt2 : ek < canonOf F.key
          · rw [decide_eq_true hlt2] at hless
            have HN := Lib.hid (show ∀ j' e, j' < j + 1 → E[j']? = some e → e.1 < canonOf F.key from fun j' e hj' he' => by
              rcases Nat.lt_or_eq_of_le (Nat.le_of_lt_succ hj') with h1 | h1
              · exact hlo.out j' e h1 he'
              · subst h1; rw [he] at he'; injection he' with he'; rw [← he']; exact hlt2)
            clear hlt2 he
            go_wp2
            go_roundg (gk - 1)
            case measure => omega
            case rel => exact ⟨j + 1, by omega, by go_num, rfl, HN⟩
          · rw [decide_eq_false hlt2] at hless
            have qz : ((j : Int) == (E.length : Int)) = false := by rw [beq_eq_false_iff_ne]; omega
            have qz2 : ¬ ((j : Int) = (E.length : Int)) := by omega
            have hpos : PosAt E j (canonOf F.key) := ⟨hlo.out, fun e' he' => by rw [he] at he'; injection he' with he'; rw [← he']; exact hlt2⟩
            by_cases heq : ek = canonOf F.key
            · have q1 : (ek == canonOf F.key) = true := by simp [heq]
              have q2 : (ek != canonOf F.key) = false := by simp [heq]
              have hat : E[j]? = some (canonOf F.key, Value.slice Au nu cu) := by rw [he, heq]
              have hfk : f (canonOf F.key) ≠ [] := (HB1.out.2.2.2.1 _).1 (List.mem_map.2 ⟨_, List.mem_of_getElem? hat, rfl⟩)
              have hkk : ∀ q, q ∈ E.map (·.1) ↔ (f q ≠ [] ∨ q = canonOf F.key) := fun q => by
                rw [HB1.out.2.2.2.1 q]
                constructor
                · exact .inl
                · rintro (h | rfl)
                  · exact h
                  · exact hfk
              have hsl3 : SL wr B F.val.ps := HB1.out.2.1.below H2.out.2.2.2.1
              obtain ⟨w3, hw3⟩ : ∃ w3, w3 = wr := ⟨_, rfl⟩
              obtain ⟨n3, hn3⟩ : ∃ n3, n3 = E.length := ⟨_, rfl⟩
              have HM := Lib.hid (And.intro H2.out.1 (And.intro hat (And.intro trivial (And.intro hkk (And.intro (Nat.le_succ_of_le HB1.out.2.2.2.2.1) (And.intro (show (f (canonOf F.key)).length ≤ 1000 by have := HB1.out.2.2.2.2.2.1 (canonOf F.key); have := HK0.out.1; omega) (And.intro H2.out.2.2.2.1 HB1.out.2.2.2.2.2.1)))))))
              clear hat hfk hkk hpos he hlt2 heq hn3
              subst hw3
              obtain ⟨g3, hg3⟩ : ∃ g3, g3 = g8 := ⟨_, rfl⟩
              subst hg3
              have c6 := d1
              obtain ⟨Y, hY⟩ : ∃ Y, Y = saysR F.val.ps := ⟨_, rfl⟩
              have hsy := saysR_le F.val.ps
              have hwd : F.val.wt = wtS F.val.ps + F.val.bl.length + 1 := rfl
              have HS := Lib.hid (fun W (hW : Below w3.heap.size w3 W) => longSays_any F.val B c' W (hsl3.below hW) (by have := HB1.out.2.2.2.2.2.2.2.2.1.2; omega) HB1.out.2.2.2.2.2.2.2.1.2.2.1)
              rw [← hY] at HS
              have HY := Lib.hid hY
              clear hY hsy hwd
              go_wp2
              refine wp_region_held_drew (S := fun _ => True) (by kernel_rfl) trivial (fun hHeld => ?_)
              refine wpAnyH_take (i := 0) (v := ?vh10x1) rfl (by kernel_rfl) (by kernel_rfl) (by kernel_rfl) (fun _ _ _ h => h) (Or.inl ⟨by rfl, ?hh10x1⟩) trivial ?rh10x1
              case hh10x1 => (intro w hSw; (try dsimp only at hSw); go_simp; (try with_reducible rfl))
              (try simp only [List.getElem_toArray, List.getElem_cons_zero, Act.put, List.setIfInBounds_toArray, List.set_cons_zero, List.set_cons_succ])
              refine wpAnyH_take (i := 1) (v := ?vh11x2) rfl (by kernel_rfl) (by kernel_rfl) (by kernel_rfl) (fun _ _ _ h => h) (Or.inl ⟨by rfl, ?hh11x2⟩) trivial ?rh11x2
              case hh11x2 => (intro w hSw; (try dsimp only at hSw); go_simp; (try with_reducible rfl))
              (try simp only [List.getElem_toArray, List.getElem_cons_succ, List.getElem_cons_zero, Act.put, List.setIfInBounds_toArray, List.set_cons_zero, List.set_cons_succ])
              refine wpAnyH_take (i := 2) (v := ?vh12x3) rfl (by kernel_rfl) (by kernel_rfl) (by kernel_rfl) (fun _ _ _ h => h) (Or.inl ⟨by rfl, ?hh12x3⟩) trivial ?rh12x3
              case hh12x3 => (intro w hSw; (try dsimp only at hSw); go_simp; (try with_reducible rfl))
              (try simp only [List.getElem_toArray, List.getElem_cons_succ, List.getElem_cons_zero, Act.put, List.setIfInBounds_toArray, List.set_cons_zero, List.set_cons_succ])
              refine wpAnyH_take (i := 3) (v := ?vh13x4) rfl (by kernel_rfl) (by kernel_rfl) (by kernel_rfl) (fun _ _ _ h => h) (Or.inl ⟨by rfl, ?hh13x4⟩) trivial ?rh13x4
              case hh13x4 => (intro w hSw; (try dsimp only at hSw); go_simp; (try with_reducible rfl))
              (try simp only [List.getElem_toArray, List.getElem_cons_succ, List.getElem_cons_zero, Act.put, List.setIfInBounds_toArray, List.set_cons_zero, List.set_cons_succ])
              refine wpAnyH_take (i := 4) (v := ?vh14x5) rfl (by kernel_rfl) (by kernel_rfl) (by kernel_rfl) (fun _ _ _ h => h) (Or.inl ⟨by rfl, ?hh14x5⟩) trivial ?rh14x5
              case hh14x5 => (intro w hSw; (try dsimp only at hSw); go_simp; (try with_reducible rfl))
              (try simp only [List.getElem_toArray, List.getElem_cons_succ, List.getElem_cons_zero, Act.put, List.setIfInBounds_toArray, List.set_cons_zero, List.set_cons_succ])
              refine wpAnyH_take (i := 5) (v := ?vh15x6) rfl (by kernel_rfl) (by kernel_rfl) (by kernel_rfl) (fun _ _ _ h => h) (Or.inl ⟨by rfl, ?hh15x6⟩) trivial ?rh15x6
              case hh15x6 => (intro w hSw; (try dsimp only at hSw); go_simp; (try with_reducible rfl))
              (try simp only [List.getElem_toArray, List.getElem_cons_succ, List.getElem_cons_zero, Act.put, List.setIfInBounds_toArray, List.set_cons_zero, List.set_cons_succ])
              refine wpAnyH_take (i := 7) (v := ?vh17x7) rfl (by kernel_rfl) (by kernel_rfl) (by kernel_rfl) (fun _ _ _ h => h) (Or.inl ⟨by rfl, ?hh17x7⟩) trivial ?rh17x7
              case hh17x7 => (intro w hSw; (try dsimp only at hSw); go_simp; (try with_reducible rfl))
              (try simp only [List.getElem_toArray, List.getElem_cons_succ, List.getElem_cons_zero, Act.put, List.setIfInBounds_toArray, List.set_cons_zero, List.set_cons_succ])
              refine wpAnyH_ready (rs := [6, 8]) (by kernel_rfl) (by simp) ?_
              refine AllReadyH.cons rfl (fun K hK => ?_) (AllReadyH.cons rfl (fun K hK => ?_) AllReadyH.nil)
              · go_simp
                refine hK.out _ _ trivial (fun _ => ?_)
                clear hK K
                (try simp only [List.getElem_toArray, List.getElem_cons_succ, List.getElem_cons_zero, Act.put, List.setIfInBounds_toArray, List.set_cons_zero, List.set_cons_succ])
                refine wpAnyH_ready (rs := [8]) (by kernel_rfl) (by simp) ?_
                refine AllReadyH.cons rfl (fun K hK => ?_) AllReadyH.nil
                go_simp
                refine hK.out _ _ trivial (fun _ => ?_)
                clear hK K
                (try simp only [List.getElem_toArray, List.getElem_cons_succ, List.getElem_cons_zero, Act.put, List.setIfInBounds_toArray, List.set_cons_zero, List.set_cons_succ])
                refine wpAnyH_ready (rs := [9]) (by kernel_rfl) (by simp) ?_
                refine AllReadyH.cons rfl (fun K hK => ?_) AllReadyH.nil
                go_simp
                go_wp2_with (go_at_call 28; refine (HS.out _ (Below.refl _ _).drew).mono ?_; rintro e w4 ⟨rfl, hb4⟩)
                refine hK.out _ _ trivial (fun _ => ?_)
                clear hK K
                (try simp only [List.getElem_toArray, List.getElem_cons_succ, List.getElem_cons_zero, Act.put, List.setIfInBounds_toArray, List.set_cons_zero, List.set_cons_succ])
                refine wpAnyH_ready (rs := [10]) (by kernel_rfl) (by simp) ?_
                refine AllReadyH.cons rfl (fun K hK => ?_) AllReadyH.nil
                go_simp
                refine hK.out _ _ trivial (fun _ => ?_)
                clear hK K
                (try simp only [List.getElem_toArray, List.getElem_cons_succ, List.getElem_cons_zero, Act.put, List.setIfInBounds_toArray, List.set_cons_zero, List.set_cons_succ])
                have hO4 := HM.out.1.below (((Below.refl _ _).drew.trans hb4).alloc hb4.size (.cells #[.string ⟨Y.toArray⟩] 9))
                obtain ⟨u5, w5, hr5, hos5, hg5, hat5⟩ := run_append_S 34 34 Tryd.underlying34 (w4.alloc (.cells #[.string ⟨Y.toArray⟩] 9)) w.heap.size (.slice Au nu cu) (f (canonOf F.key)) (hO4.vals _ (List.mem_of_getElem? HM.out.2.1)) (some ⟨w4.heap.size, 0, none⟩) [Y] 1 (SL.one w4 Y 9) (by have := HM.out.2.2.2.2.2.1; simp only [List.length_singleton]; omega) (by have := HM.out.2.2.2.2.2.2.1.size; have := hb4.size; rw [World.size_alloc]; have h1 : w3.drew.heap.size = w3.heap.size := rfl; omega)
                obtain ⟨A9, c9, hu9, -⟩ := hos5.form
                obtain ⟨n9, hn9⟩ : ∃ m : Nat, m = (f (canonOf F.key) ++ [Y]).length := ⟨_, rfl⟩
                rw [← hn9] at hu9
                subst hu9
                clear hn9
                have hnew := hO4.put HM.out.2.1 hos5 hg5 hat5
                have hbl : Below w.heap.size w (w5.setCell ⟨g3, j * 2 + 1, none⟩ (.slice A9 n9 c9)) := (((HM.out.2.2.2.2.2.2.1.trans (((Below.refl _ _).drew.trans hb4).mono HM.out.2.2.2.2.2.2.1.size)).alloc (Nat.le_trans HM.out.2.2.2.2.2.2.1.size hb4.size) _).grown hg5 (by have := HM.out.2.2.2.2.2.2.1.size; have := hb4.size; rw [World.size_alloc]; have h1 : w3.drew.heap.size = w3.heap.size := rfl; omega) (fun q hq => ((hO4.vals _ (List.mem_of_getElem? HM.out.2.1)).lt q hq).1)).setCell (p := ⟨g3, j * 2 + 1, none⟩) (hO4.own.lt g3 rfl).1 _
                have hc14 := hO4.store HM.out.2.1 hg5
                have k14 := hc14.1
                have j14 := hc14.2
                have HT := Lib.hid (And.intro hnew (And.intro hbl hr5))
                clear hnew hbl hr5 hos5 hg5 hat5 hc14 hO4
                refine wpAnyH_ready (rs := [11]) (by kernel_rfl) (by simp) ?_
                refine AllReadyH.cons rfl (fun K hK => ?_) AllReadyH.nil
                rw [if_pos (by rfl)]
                refine Lib.wp_append_run _ (.tmp 57) (.tmp 61) 34 34 rfl _ _ rfl rfl _ _ HT.out.2.2 ?_
                refine hK.out _ _ trivial (fun _ => ?_)
                clear hK K
                (try simp only [List.getElem_toArray, List.getElem_cons_succ, List.getElem_cons_zero, Act.put, List.setIfInBounds_toArray, List.set_cons_zero, List.set_cons_succ])
                refine wpAnyH_take (i := 12) (v := ?vh112x8) rfl (by kernel_rfl) (by kernel_rfl) (by kernel_rfl) (fun _ _ _ h => h) (Or.inl ⟨by rfl, ?hh112x8⟩) trivial ?rh112x8
                case hh112x8 => (intro w hSw; (try dsimp only at hSw); go_simp; (try with_reducible rfl))
                (try simp only [List.getElem_toArray, List.getElem_cons_succ, List.getElem_cons_zero, Act.put, List.setIfInBounds_toArray, List.set_cons_zero, List.set_cons_succ])
                refine wpAnyH_take (i := 13) (v := ?vh113x9) rfl (by kernel_rfl) (by kernel_rfl) (by kernel_rfl) (fun _ _ _ h => h) (Or.inl ⟨by rfl, ?hh113x9⟩) trivial ?rh113x9
                case hh113x9 => (intro w hSw; (try dsimp only at hSw); go_simp; (try with_reducible rfl))
                (try simp only [List.getElem_toArray, List.getElem_cons_succ, List.getElem_cons_zero, Act.put, List.setIfInBounds_toArray, List.set_cons_zero, List.set_cons_succ])
                refine wpAnyH_ready (rs := [14]) (by kernel_rfl) (by simp) ?_
                refine AllReadyH.cons rfl (fun K hK => ?_) AllReadyH.nil
                go_simp
                refine hK.out _ _ trivial (fun _ => ?_)
                clear hK K
                (try simp only [List.getElem_toArray, List.getElem_cons_succ, List.getElem_cons_zero, Act.put, List.setIfInBounds_toArray, List.set_cons_zero, List.set_cons_succ])
                refine wpAnyH_done (by kernel_rfl) ?_ _
                go_wp2
                go_roundg (gk0 - 1)
                case measure => have := HK0.out; omega
                case rel => exact ⟨k + 1, by have := HK0.out; omega, by go_num, Lib.hid (HdLp.next HM.out.2.1 HT.out.1 HM.out.2.2.2.1 HM.out.2.2.2.2.1 HM.out.2.2.2.2.2.2.2 HT.out.2.1 HB1.out.2.2.2.2.2.2.1 HY.out)⟩
              · go_simp
                refine hK.out _ _ trivial (fun _ => ?_)
                clear hK K
                (try simp only [List.getElem_toArray, List.getElem_cons_succ, List.getElem_cons_zero, Act.put, List.setIfInBounds_toArray, List.set_cons_zero, List.set_cons_succ])
                refine wpAnyH_ready (rs := [6, 9]) (by kernel_rfl) (by simp) ?_
                refine AllReadyH.cons rfl (fun K hK => ?_) (AllReadyH.cons rfl (fun K hK => ?_) AllReadyH.nil)
                · go_simp
                  refine hK.out _ _ trivial (fun _ => ?_)
                  clear hK K
                  (try simp only [List.getElem_toArray, List.getElem_cons_succ, List.getElem_cons_zero, Act.put, List.setIfInBounds_toArray, List.set_cons_zero, List.set_cons_succ])
                  refine wpAnyH_ready (rs := [9]) (by kernel_rfl) (by simp) ?_
                  refine AllReadyH.cons rfl (fun K hK => ?_) AllReadyH.nil
                  go_simp
                  go_wp2_with (go_at_call 28; refine (HS.out _ (Below.refl _ _).drew).mono ?_; rintro e w4 ⟨rfl, hb4⟩)
                  refine hK.out _ _ trivial (fun _ => ?_)
                  clear hK K
                  (try simp only [List.getElem_toArray, List.getElem_cons_succ, List.getElem_cons_zero, Act.put, List.setIfInBounds_toArray, List.set_cons_zero, List.set_cons_succ])
                  refine wpAnyH_ready (rs := [10]) (by kernel_rfl) (by simp) ?_
                  refine AllReadyH.cons rfl (fun K hK => ?_) AllReadyH.nil
                  go_simp
                  refine hK.out _ _ trivial (fun _ => ?_)
                  clear hK K
                  (try simp only [List.getElem_toArray, List.getElem_cons_succ, List.getElem_cons_zero, Act.put, List.setIfInBounds_toArray, List.set_cons_zero, List.set_cons_succ])
                  have hO4 := HM.out.1.below (((Below.refl _ _).drew.trans hb4).alloc hb4.size (.cells #[.string ⟨Y.toArray⟩] 9))
                  obtain ⟨u5, w5, hr5, hos5, hg5, hat5⟩ := run_append_S 34 34 Tryd.underlying34 (w4.alloc (.cells #[.string ⟨Y.toArray⟩] 9)) w.heap.size (.slice Au nu cu) (f (canonOf F.key)) (hO4.vals _ (List.mem_of_getElem? HM.out.2.1)) (some ⟨w4.heap.size, 0, none⟩) [Y] 1 (SL.one w4 Y 9) (by have := HM.out.2.2.2.2.2.1; simp only [List.length_singleton]; omega) (by have := HM.out.2.2.2.2.2.2.1.size; have := hb4.size; rw [World.size_alloc]; have h1 : w3.drew.heap.size = w3.heap.size := rfl; omega)
                  obtain ⟨A9, c9, hu9, -⟩ := hos5.form
                  obtain ⟨n9, hn9⟩ : ∃ m : Nat, m = (f (canonOf F.key) ++ [Y]).length := ⟨_, rfl⟩
                  rw [← hn9] at hu9
                  subst hu9
                  clear hn9
                  have hnew := hO4.put HM.out.2.1 hos5 hg5 hat5
                  have hbl : Below w.heap.size w (w5.setCell ⟨g3, j * 2 + 1, none⟩ (.slice A9 n9 c9)) := (((HM.out.2.2.2.2.2.2.1.trans (((Below.refl _ _).drew.trans hb4).mono HM.out.2.2.2.2.2.2.1.size)).alloc (Nat.le_trans HM.out.2.2.2.2.2.2.1.size hb4.size) _).grown hg5 (by have := HM.out.2.2.2.2.2.2.1.size; have := hb4.size; rw [World.size_alloc]; have h1 : w3.drew.heap.size = w3.heap.size := rfl; omega) (fun q hq => ((hO4.vals _ (List.mem_of_getElem? HM.out.2.1)).lt q hq).1)).setCell (p := ⟨g3, j * 2 + 1, none⟩) (hO4.own.lt g3 rfl).1 _
                  have hc14 := hO4.store HM.out.2.1 hg5
                  have k14 := hc14.1
                  have j14 := hc14.2
                  have HT := Lib.hid (And.intro hnew (And.intro hbl hr5))
                  clear hnew hbl hr5 hos5 hg5 hat5 hc14 hO4
                  refine wpAnyH_ready (rs := [11]) (by kernel_rfl) (by simp) ?_
                  refine AllReadyH.cons rfl (fun K hK => ?_) AllReadyH.nil
                  rw [if_pos (by rfl)]
                  refine Lib.wp_append_run _ (.tmp 57) (.tmp 61) 34 34 rfl _ _ rfl rfl _ _ HT.out.2.2 ?_
                  refine hK.out _ _ trivial (fun _ => ?_)
                  clear hK K
                  (try simp only [List.getElem_toArray, List.getElem_cons_succ, List.getElem_cons_zero, Act.put, List.setIfInBounds_toArray, List.set_cons_zero, List.set_cons_succ])
                  refine wpAnyH_take (i := 12) (v := ?vh112x10) rfl (by kernel_rfl) (by kernel_rfl) (by kernel_rfl) (fun _ _ _ h => h) (Or.inl ⟨by rfl, ?hh112x10⟩) trivial ?rh112x10
                  case hh112x10 => (intro w hSw; (try dsimp only at hSw); go_simp; (try with_reducible rfl))
                  (try simp only [List.getElem_toArray, List.getElem_cons_succ, List.getElem_cons_zero, Act.put, List.setIfInBounds_toArray, List.set_cons_zero, List.set_cons_succ])
                  refine wpAnyH_take (i := 13) (v := ?vh113x11) rfl (by kernel_rfl) (by kernel_rfl) (by kernel_rfl) (fun _ _ _ h => h) (Or.inl ⟨by rfl, ?hh113x11⟩) trivial ?rh113x11
                  case hh113x11 => (intro w hSw; (try dsimp only at hSw); go_simp; (try with_reducible rfl))
                  (try simp only [List.getElem_toArray, List.getElem_cons_succ, List.getElem_cons_zero, Act.put, List.setIfInBounds_toArray, List.set_cons_zero, List.set_cons_succ])
                  refine wpAnyH_ready (rs := [14]) (by kernel_rfl) (by simp) ?_
                  refine AllReadyH.cons rfl (fun K hK => ?_) AllReadyH.nil
                  go_simp
                  refine hK.out _ _ trivial (fun _ => ?_)
                  clear hK K
                  (try simp only [List.getElem_toArray, List.getElem_cons_succ, List.getElem_cons_zero, Act.put, List.setIfInBounds_toArray, List.set_cons_zero, List.set_cons_succ])
                  refine wpAnyH_done (by kernel_rfl) ?_ _
                  go_wp2
                  go_roundg (gk0 - 1)
                  case measure => have := HK0.out; omega
                  case rel => exact ⟨k + 1, by have := HK0.out; omega, by go_num, Lib.hid (HdLp.next HM.out.2.1 HT.out.1 HM.out.2.2.2.1 HM.out.2.2.2.2.1 HM.out.2.2.2.2.2.2.2 HT.out.2.1 HB1.out.2.2.2.2.2.2.1 HY.out)⟩
                · go_simp
                  go_wp2_with (go_at_call 28; refine (HS.out _ (Below.refl _ _).drew).mono ?_; rintro e w4 ⟨rfl, hb4⟩)
                  have c6 : w4.cell? ⟨g3, j * 2 + 1, none⟩ = some (.slice Au nu cu) := (hb4.cell (p := ⟨g3, j * 2 + 1, none⟩) (World.block_lt_of_cell? _ _ c6)).trans c6
                  refine hK.out _ _ trivial (fun _ => ?_)
                  clear hK K
                  (try simp only [List.getElem_toArray, List.getElem_cons_succ, List.getElem_cons_zero, Act.put, List.setIfInBounds_toArray, List.set_cons_zero, List.set_cons_succ])
                  refine wpAnyH_ready (rs := [6, 10]) (by kernel_rfl) (by simp) ?_
                  refine AllReadyH.cons rfl (fun K hK => ?_) (AllReadyH.cons rfl (fun K hK => ?_) AllReadyH.nil)
                  · go_simp
                    refine hK.out _ _ trivial (fun _ => ?_)
                    clear hK K
                    (try simp only [List.getElem_toArray, List.getElem_cons_succ, List.getElem_cons_zero, Act.put, List.setIfInBounds_toArray, List.set_cons_zero, List.set_cons_succ])
                    refine wpAnyH_ready (rs := [10]) (by kernel_rfl) (by simp) ?_
                    refine AllReadyH.cons rfl (fun K hK => ?_) AllReadyH.nil
                    go_simp
                    refine hK.out _ _ trivial (fun _ => ?_)
                    clear hK K
                    (try simp only [List.getElem_toArray, List.getElem_cons_succ, List.getElem_cons_zero, Act.put, List.setIfInBounds_toArray, List.set_cons_zero, List.set_cons_succ])
                    have hO4 := HM.out.1.below (((Below.refl _ _).drew.trans hb4).alloc hb4.size (.cells #[.string ⟨Y.toArray⟩] 9))
                    obtain ⟨u5, w5, hr5, hos5, hg5, hat5⟩ := run_append_S 34 34 Tryd.underlying34 (w4.alloc (.cells #[.string ⟨Y.toArray⟩] 9)) w.heap.size (.slice Au nu cu) (f (canonOf F.key)) (hO4.vals _ (List.mem_of_getElem? HM.out.2.1)) (some ⟨w4.heap.size, 0, none⟩) [Y] 1 (SL.one w4 Y 9) (by have := HM.out.2.2.2.2.2.1; simp only [List.length_singleton]; omega) (by have := HM.out.2.2.2.2.2.2.1.size; have := hb4.size; rw [World.size_alloc]; have h1 : w3.drew.heap.size = w3.heap.size := rfl; omega)
                    obtain ⟨A9, c9, hu9, -⟩ := hos5.form
                    obtain ⟨n9, hn9⟩ : ∃ m : Nat, m = (f (canonOf F.key) ++ [Y]).length := ⟨_, rfl⟩
                    rw [← hn9] at hu9
                    subst hu9
                    clear hn9
                    have hnew := hO4.put HM.out.2.1 hos5 hg5 hat5
                    have hbl : Below w.heap.size w (w5.setCell ⟨g3, j * 2 + 1, none⟩ (.slice A9 n9 c9)) := (((HM.out.2.2.2.2.2.2.1.trans (((Below.refl _ _).drew.trans hb4).mono HM.out.2.2.2.2.2.2.1.size)).alloc (Nat.le_trans HM.out.2.2.2.2.2.2.1.size hb4.size) _).grown hg5 (by have := HM.out.2.2.2.2.2.2.1.size; have := hb4.size; rw [World.size_alloc]; have h1 : w3.drew.heap.size = w3.heap.size := rfl; omega) (fun q hq => ((hO4.vals _ (List.mem_of_getElem? HM.out.2.1)).lt q hq).1)).setCell (p := ⟨g3, j * 2 + 1, none⟩) (hO4.own.lt g3 rfl).1 _
                    have hc14 := hO4.store HM.out.2.1 hg5
                    have k14 := hc14.1
                    have j14 := hc14.2
                    have HT := Lib.hid (And.intro hnew (And.intro hbl hr5))
                    clear hnew hbl hr5 hos5 hg5 hat5 hc14 hO4
                    refine wpAnyH_ready (rs := [11]) (by kernel_rfl) (by simp) ?_
                    refine AllReadyH.cons rfl (fun K hK => ?_) AllReadyH.nil
                    rw [if_pos (by rfl)]
                    refine Lib.wp_append_run _ (.tmp 57) (.tmp 61) 34 34 rfl _ _ rfl rfl _ _ HT.out.2.2 ?_
                    refine hK.out _ _ trivial (fun _ => ?_)
                    clear hK K
                    (try simp only [List.getElem_toArray, List.getElem_cons_succ, List.getElem_cons_zero, Act.put, List.setIfInBounds_toArray, List.set_cons_zero, List.set_cons_succ])
                    refine wpAnyH_take (i := 12) (v := ?vh112x12) rfl (by kernel_rfl) (by kernel_rfl) (by kernel_rfl) (fun _ _ _ h => h) (Or.inl ⟨by rfl, ?hh112x12⟩) trivial ?rh112x12
                    case hh112x12 => (intro w hSw; (try dsimp only at hSw); go_simp; (try with_reducible rfl))
                    (try simp only [List.getElem_toArray, List.getElem_cons_succ, List.getElem_cons_zero, Act.put, List.setIfInBounds_toArray, List.set_cons_zero, List.set_cons_succ])
                    refine wpAnyH_take (i := 13) (v := ?vh113x13) rfl (by kernel_rfl) (by kernel_rfl) (by kernel_rfl) (fun _ _ _ h => h) (Or.inl ⟨by rfl, ?hh113x13⟩) trivial ?rh113x13
                    case hh113x13 => (intro w hSw; (try dsimp only at hSw); go_simp; (try with_reducible rfl))
                    (try simp only [List.getElem_toArray, List.getElem_cons_succ, List.getElem_cons_zero, Act.put, List.setIfInBounds_toArray, List.set_cons_zero, List.set_cons_succ])
                    refine wpAnyH_ready (rs := [14]) (by kernel_rfl) (by simp) ?_
                    refine AllReadyH.cons rfl (fun K hK => ?_) AllReadyH.nil
                    go_simp
                    refine hK.out _ _ trivial (fun _ => ?_)
                    clear hK K
                    (try simp only [List.getElem_toArray, List.getElem_cons_succ, List.getElem_cons_zero, Act.put, List.setIfInBounds_toArray, List.set_cons_zero, List.set_cons_succ])
                    refine wpAnyH_done (by kernel_rfl) ?_ _
                    go_wp2
                    go_roundg (gk0 - 1)
                    case measure => have := HK0.out; omega
                    case rel => exact ⟨k + 1, by have := HK0.out; omega, by go_num, Lib.hid (HdLp.next HM.out.2.1 HT.out.1 HM.out.2.2.2.1 HM.out.2.2.2.2.1 HM.out.2.2.2.2.2.2.2 HT.out.2.1 HB1.out.2.2.2.2.2.2.1 HY.out)⟩
                  · have c6 := Lib.cell?_alloc_some (.cells #[.string ⟨Y.toArray⟩] 9) c6
                    go_simp
                    refine hK.out _ _ trivial (fun _ => ?_)
                    clear hK K
                    (try simp only [List.getElem_toArray, List.getElem_cons_succ, List.getElem_cons_zero, Act.put, List.setIfInBounds_toArray, List.set_cons_zero, List.set_cons_succ])
                    refine wpAnyH_ready (rs := [6]) (by kernel_rfl) (by simp) ?_
                    refine AllReadyH.cons rfl (fun K hK => ?_) AllReadyH.nil
                    go_simp
                    refine hK.out _ _ trivial (fun _ => ?_)
                    clear hK K
                    (try simp only [List.getElem_toArray, List.getElem_cons_succ, List.getElem_cons_zero, Act.put, List.setIfInBounds_toArray, List.set_cons_zero, List.set_cons_succ])
                    have hO4 := HM.out.1.below (((Below.refl _ _).drew.trans hb4).alloc hb4.size (.cells #[.string ⟨Y.toArray⟩] 9))
                    obtain ⟨u5, w5, hr5, hos5, hg5, hat5⟩ := run_append_S 34 34 Tryd.underlying34 (w4.alloc (.cells #[.string ⟨Y.toArray⟩] 9)) w.heap.size (.slice Au nu cu) (f (canonOf F.key)) (hO4.vals _ (List.mem_of_getElem? HM.out.2.1)) (some ⟨w4.heap.size, 0, none⟩) [Y] 1 (SL.one w4 Y 9) (by have := HM.out.2.2.2.2.2.1; simp only [List.length_singleton]; omega) (by have := HM.out.2.2.2.2.2.2.1.size; have := hb4.size; rw [World.size_alloc]; have h1 : w3.drew.heap.size = w3.heap.size := rfl; omega)
                    obtain ⟨A9, c9, hu9, -⟩ := hos5.form
                    obtain ⟨n9, hn9⟩ : ∃ m : Nat, m = (f (canonOf F.key) ++ [Y]).length := ⟨_, rfl⟩
                    rw [← hn9] at hu9
                    subst hu9
                    clear hn9
                    have hnew := hO4.put HM.out.2.1 hos5 hg5 hat5
                    have hbl : Below w.heap.size w (w5.setCell ⟨g3, j * 2 + 1, none⟩ (.slice A9 n9 c9)) := (((HM.out.2.2.2.2.2.2.1.trans (((Below.refl _ _).drew.trans hb4).mono HM.out.2.2.2.2.2.2.1.size)).alloc (Nat.le_trans HM.out.2.2.2.2.2.2.1.size hb4.size) _).grown hg5 (by have := HM.out.2.2.2.2.2.2.1.size; have := hb4.size; rw [World.size_alloc]; have h1 : w3.drew.heap.size = w3.heap.size := rfl; omega) (fun q hq => ((hO4.vals _ (List.mem_of_getElem? HM.out.2.1)).lt q hq).1)).setCell (p := ⟨g3, j * 2 + 1, none⟩) (hO4.own.lt g3 rfl).1 _
                    have hc14 := hO4.store HM.out.2.1 hg5
                    have k14 := hc14.1
                    have j14 := hc14.2
                    have HT := Lib.hid (And.intro hnew (And.intro hbl hr5))
                    clear hnew hbl hr5 hos5 hg5 hat5 hc14 hO4
                    refine wpAnyH_ready (rs := [11]) (by kernel_rfl) (by simp) ?_
                    refine AllReadyH.cons rfl (fun K hK => ?_) AllReadyH.nil
                    rw [if_pos (by rfl)]
                    refine Lib.wp_append_run _ (.tmp 57) (.tmp 61) 34 34 rfl _ _ rfl rfl _ _ HT.out.2.2 ?_
                    refine hK.out _ _ trivial (fun _ => ?_)
                    clear hK K
                    (try simp only [List.getElem_toArray, List.getElem_cons_succ, List.getElem_cons_zero, Act.put, List.setIfInBounds_toArray, List.set_cons_zero, List.set_cons_succ])
                    refine wpAnyH_take (i := 12) (v := ?vh112x14) rfl (by kernel_rfl) (by kernel_rfl) (by kernel_rfl) (fun _ _ _ h => h) (Or.inl ⟨by rfl, ?hh112x14⟩) trivial ?rh112x14
                    case hh112x14 => (intro w hSw; (try dsimp only at hSw); go_simp; (try with_reducible rfl))
                    (try simp only [List.getElem_toArray, List.getElem_cons_succ, List.getElem_cons_zero, Act.put, List.setIfInBounds_toArray, List.set_cons_zero, List.set_cons_succ])
                    refine wpAnyH_take (i := 13) (v := ?vh113x15) rfl (by kernel_rfl) (by kernel_rfl) (by kernel_rfl) (fun _ _ _ h => h) (Or.inl ⟨by rfl, ?hh113x15⟩) trivial ?rh113x15
                    case hh113x15 => (intro w hSw; (try dsimp only at hSw); go_simp; (try with_reducible rfl))
                    (try simp only [List.getElem_toArray, List.getElem_cons_succ, List.getElem_cons_zero, Act.put, List.setIfInBounds_toArray, List.set_cons_zero, List.set_cons_succ])
                    refine wpAnyH_ready (rs := [14]) (by kernel_rfl) (by simp) ?_
                    refine AllReadyH.cons rfl (fun K hK => ?_) AllReadyH.nil
                    go_simp
                    refine hK.out _ _ trivial (fun _ => ?_)
                    clear hK K
                    (try simp only [List.getElem_toArray, List.getElem_cons_succ, List.getElem_cons_zero, Act.put, List.setIfInBounds_toArray, List.set_cons_zero, List.set_cons_succ])
                    refine wpAnyH_done (by kernel_rfl) ?_ _
                    go_wp2
                    go_roundg (gk0 - 1)
                    case measure => have := HK0.out; omega
                    case rel => exact ⟨k + 1, by have := HK0.out; omega, by go_num, Lib.hid (HdLp.next HM.out.2.1 HT.out.1 HM.out.2.2.2.1 HM.out.2.2.2.2.1 HM.out.2.2.2.2.2.2.2 HT.out.2.1 HB1.out.2.2.2.2.2.2.1 HY.out)⟩
            · have q1 : (ek == canonOf F.key) = false := by rw [beq_eq_false_iff_ne]; exact heq
              have q2 : (ek != canonOf F.key) = true := by simp [heq]
              have hne : ∀ e', E[j]? = some e' → e'.1 ≠ canonOf F.key := fun e' he' => by rw [he] at he'; injection he' with he'; rw [← he']; exact heq
              have hjl2 : j ≤ E.length := by omega
              have hknew : canonOf F.key ∉ E.map (·.1) := hpos.fresh H2.out.1.sorted hne
              have hfk : f (canonOf F.key) = [] := Classical.byContradiction fun h => hknew ((HB1.out.2.2.2.1 _).2 h)
              have hO2' := H2.out.1.below ((Below.refl _ wr).alloc (Nat.le_refl _) (.cells #[.string ⟨(canonOf F.key).toArray⟩, .slice none 0 0] 51))
              have hin := insert_any (i := j) hO2'.own hO2'.shape (Blk.new wr #[.string ⟨(canonOf F.key).toArray⟩, .slice none 0 0] 51) (fun e => by have := (H2.out.1.own.lt _ e).2; omega) (by omega) (by omega) (by have := H2.out.2.2.2.1.size; rw [World.size_alloc]; omega)
              have HI := Lib.hid (And.intro hin (And.intro hO2' (And.intro hpos (And.intro hne (And.intro hfk hjl2)))))
              clear hin hO2' hpos hne hfk hknew
              go_wp2_with (go_at_call 27; refine HI.out.1.mono ?_; rintro e3 w3 hins; obtain ⟨A3, c3, rfl, hO3, hg3⟩ := HI.out.2.1.inserted HI.out.2.2.1 HI.out.2.2.2.1 HI.out.2.2.2.2.1 HI.out.2.2.2.2.2 hins; refine Hid.out ?_)
              obtain ⟨A0, cz, e0, -, -, hkr3, -⟩ := hO3.own.form
              injection e0 with ea el ec
              clear el
              subst ea
              subst ec
              obtain ⟨g3, rfl, hx3⟩ := hkr3 (by intro h; have h1 := congrArg List.length h; rw [insE_length _ _ _ HI.out.2.2.2.2.2] at h1; simp at h1)
              have hat := insE_at E j (canonOf F.key) HI.out.2.2.2.2.2
              have c6 := (hx3 j _ hat).2
              have hkk : ∀ q, q ∈ (insE E j (canonOf F.key)).map (·.1) ↔ (f q ≠ [] ∨ q = canonOf F.key) := fun q => by
                rw [insE_keys, ← HB1.out.2.2.2.1 q]
                conv => rhs; rw [← List.take_append_drop j E, List.map_append]
                simp only [List.mem_append, List.mem_cons]
                constructor
                · rintro (h | h | h)
                  · exact .inl (.inl h)
                  · exact .inr h
                  · exact .inl (.inr h)
                · rintro ((h | h) | h)
                  · exact .inl h
                  · exact .inr (.inr h)
                  · exact .inr (.inl h)
              have hB3 : Below w.heap.size w w3 := (H2.out.2.2.2.1.alloc H2.out.2.2.2.1.size _).grown hg3 (by have := H2.out.2.2.2.1.size; rw [World.size_alloc]; omega) (fun q hq => (H2.out.1.own.lt q hq).1)
              have hfb3 : w3.heap[fb]? = wr.heap[fb]? := (hg3.block fb (by have := H2.out.2.2.2.2; rw [World.size_alloc]; omega) (fun e => by have := H2.out.2.2.1 fb e.symm; omega)).trans (heap_alloc_old wr _ H2.out.2.2.2.2)
              have p1' : w3.cell? ⟨fb, 1, none⟩ = some (.slice B F.val.ps.length c') := (World.cell?_of_block (a := ⟨fb, 1, none⟩) hfb3).trans p1
              have p2' : w3.cell? ⟨fb, 2, none⟩ = some (.string ⟨F.val.bl.toArray⟩) := (World.cell?_of_block (a := ⟨fb, 2, none⟩) hfb3).trans p2
              have p3' : w3.cell? ⟨fb, 3, none⟩ = some (.bool F.val.feed) := (World.cell?_of_block (a := ⟨fb, 3, none⟩) hfb3).trans p3
              have hjb : (j : Int) < (E.length : Int) + 1 := by have := HI.out.2.2.2.2.2; omega
              have hsl3 : SL w3 B F.val.ps := HB1.out.2.1.below hB3
              have HM := Lib.hid (And.intro hO3 (And.intro hat (And.intro trivial (And.intro hkk (And.intro (show (insE E j (canonOf F.key)).length ≤ k + 1 by rw [insE_length _ _ _ HI.out.2.2.2.2.2]; have := HB1.out.2.2.2.2.1; omega) (And.intro (show (f (canonOf F.key)).length ≤ 1000 by have := HB1.out.2.2.2.2.2.1 (canonOf F.key); have := HK0.out.1; omega) (And.intro hB3 HB1.out.2.2.2.2.2.1)))))))
              clear p1 p2 p3 hO3 hat hkk hB3 hfb3 hg3 hx3 hkr3 hins
              obtain ⟨uu, huu⟩ : ∃ uu, uu = Value.slice none 0 0 := ⟨_, rfl⟩
              rw [← huu] at c6 HM
              obtain ⟨Au, nu, cu, hu⟩ : ∃ Au nu cu, uu = .slice Au nu cu := ⟨_, _, _, huu⟩
              clear huu
              subst hu
              obtain ⟨Y, hY⟩ : ∃ Y, Y = saysR F.val.ps := ⟨_, rfl⟩
              have hsy := saysR_le F.val.ps
              have hwd : F.val.wt = wtS F.val.ps + F.val.bl.length + 1 := rfl
              have HS := Lib.hid (fun W (hW : Below w3.heap.size w3 W) => longSays_any F.val B c' W (hsl3.below hW) (by have := HB1.out.2.2.2.2.2.2.2.2.1.2; omega) HB1.out.2.2.2.2.2.2.2.1.2.2.1)
              rw [← hY] at HS
              have HY := Lib.hid hY
              clear hY hsy hwd
              refine Lib.hid ?_
              go_wp2
              refine wp_region_held_drew (S := fun _ => True) (by kernel_rfl) trivial (fun hHeld => ?_)
              refine wpAnyH_take (i := 0) (v := ?vh20x1) rfl (by kernel_rfl) (by kernel_rfl) (by kernel_rfl) (fun _ _ _ h => h) (Or.inl ⟨by rfl, ?hh20x1⟩) trivial ?rh20x1
              case hh20x1 => (intro w hSw; (try dsimp only at hSw); go_simp; (try with_reducible rfl))
              (try simp only [List.getElem_toArray, List.getElem_cons_zero, Act.put, List.setIfInBounds_toArray, List.set_cons_zero, List.set_cons_succ])
              refine wpAnyH_take (i := 1) (v := ?vh21x2) rfl (by kernel_rfl) (by kernel_rfl) (by kernel_rfl) (fun _ _ _ h => h) (Or.inl ⟨by rfl, ?hh21x2⟩) trivial ?rh21x2
              case hh21x2 => (intro w hSw; (try dsimp only at hSw); go_simp; (try with_reducible rfl))
              (try simp only [List.getElem_toArray, List.getElem_cons_succ, List.getElem_cons_zero, Act.put, List.setIfInBounds_toArray, List.set_cons_zero, List.set_cons_succ])
              refine wpAnyH_take (i := 2) (v := ?vh22x3) rfl (by kernel_rfl) (by kernel_rfl) (by kernel_rfl) (fun _ _ _ h => h) (Or.inl ⟨by rfl, ?hh22x3⟩) trivial ?rh22x3
              case hh22x3 => (intro w hSw; (try dsimp only at hSw); go_simp; (try with_reducible rfl))
              (try simp only [List.getElem_toArray, List.getElem_cons_succ, List.getElem_cons_zero, Act.put, List.setIfInBounds_toArray, List.set_cons_zero, List.set_cons_succ])
              refine wpAnyH_take (i := 3) (v := ?vh23x4) rfl (by kernel_rfl) (by kernel_rfl) (by kernel_rfl) (fun _ _ _ h => h) (Or.inl ⟨by rfl, ?hh23x4⟩) trivial ?rh23x4
              case hh23x4 => (intro w hSw; (try dsimp only at hSw); go_simp; (try with_reducible rfl))
              (try simp only [List.getElem_toArray, List.getElem_cons_succ, List.getElem_cons_zero, Act.put, List.setIfInBounds_toArray, List.set_cons_zero, List.set_cons_succ])
              refine wpAnyH_take (i := 4) (v := ?vh24x5) rfl (by kernel_rfl) (by kernel_rfl) (by kernel_rfl) (fun _ _ _ h => h) (Or.inl ⟨by rfl, ?hh24x5⟩) trivial ?rh24x5
              case hh24x5 => (intro w hSw; (try dsimp only at hSw); go_simp; (try with_reducible rfl))
              (try simp only [List.getElem_toArray, List.getElem_cons_succ, List.getElem_cons_zero, Act.put, List.setIfInBounds_toArray, List.set_cons_zero, List.set_cons_succ])
              refine wpAnyH_take (i := 5) (v := ?vh25x6) rfl (by kernel_rfl) (by kernel_rfl) (by kernel_rfl) (fun _ _ _ h => h) (Or.inl ⟨by rfl, ?hh25x6⟩) trivial ?rh25x6
              case hh25x6 => (intro w hSw; (try dsimp only at hSw); go_simp; (try with_reducible rfl))
              (try simp only [List.getElem_toArray, List.getElem_cons_succ, List.getElem_cons_zero, Act.put, List.setIfInBounds_toArray, List.set_cons_zero, List.set_cons_succ])
              refine wpAnyH_take (i := 7) (v := ?vh27x7) rfl (by kernel_rfl) (by kernel_rfl) (by kernel_rfl) (fun _ _ _ h => h) (Or.inl ⟨by rfl, ?hh27x7⟩) trivial ?rh27x7
              case hh27x7 => (intro w hSw; (try dsimp only at hSw); go_simp; (try with_reducible rfl))
              (try simp only [List.getElem_toArray, List.getElem_cons_succ, List.getElem_cons_zero, Act.put, List.setIfInBounds_toArray, List.set_cons_zero, List.set_cons_succ])
              refine wpAnyH_ready (rs := [6, 8]) (by kernel_rfl) (by simp) ?_
              refine AllReadyH.cons rfl (fun K hK => ?_) (AllReadyH.cons rfl (fun K hK => ?_) AllReadyH.nil)
              · go_simp
                refine hK.out _ _ trivial (fun _ => ?_)
                clear hK K
                (try simp only [List.getElem_toArray, List.getElem_cons_succ, List.getElem_cons_zero, Act.put, List.setIfInBounds_toArray, List.set_cons_zero, List.set_cons_succ])
                refine wpAnyH_ready (rs := [8]) (by kernel_rfl) (by simp) ?_
                refine AllReadyH.cons rfl (fun K hK => ?_) AllReadyH.nil
                go_simp
                refine hK.out _ _ trivial (fun _ => ?_)
                clear hK K
                (try simp only [List.getElem_toArray, List.getElem_cons_succ, List.getElem_cons_zero, Act.put, List.setIfInBounds_toArray, List.set_cons_zero, List.set_cons_succ])
                refine wpAnyH_ready (rs := [9]) (by kernel_rfl) (by simp) ?_
                refine AllReadyH.cons rfl (fun K hK => ?_) AllReadyH.nil
                go_simp
                go_wp2_with (go_at_call 28; refine (HS.out _ (Below.refl _ _).drew).mono ?_; rintro e w4 ⟨rfl, hb4⟩)
                refine hK.out _ _ trivial (fun _ => ?_)
                clear hK K
                (try simp only [List.getElem_toArray, List.getElem_cons_succ, List.getElem_cons_zero, Act.put, List.setIfInBounds_toArray, List.set_cons_zero, List.set_cons_succ])
                refine wpAnyH_ready (rs := [10]) (by kernel_rfl) (by simp) ?_
                refine AllReadyH.cons rfl (fun K hK => ?_) AllReadyH.nil
                go_simp
                refine hK.out _ _ trivial (fun _ => ?_)
                clear hK K
                (try simp only [List.getElem_toArray, List.getElem_cons_succ, List.getElem_cons_zero, Act.put, List.setIfInBounds_toArray, List.set_cons_zero, List.set_cons_succ])
                have hO4 := HM.out.1.below (((Below.refl _ _).drew.trans hb4).alloc hb4.size (.cells #[.string ⟨Y.toArray⟩] 9))
                obtain ⟨u5, w5, hr5, hos5, hg5, hat5⟩ := run_append_S 34 34 Tryd.underlying34 (w4.alloc (.cells #[.string ⟨Y.toArray⟩] 9)) w.heap.size (.slice Au nu cu) (f (canonOf F.key)) (hO4.vals _ (List.mem_of_getElem? HM.out.2.1)) (some ⟨w4.heap.size, 0, none⟩) [Y] 1 (SL.one w4 Y 9) (by have := HM.out.2.2.2.2.2.1; simp only [List.length_singleton]; omega) (by have := HM.out.2.2.2.2.2.2.1.size; have := hb4.size; rw [World.size_alloc]; have h1 : w3.drew.heap.size = w3.heap.size := rfl; omega)
                obtain ⟨A9, c9, hu9, -⟩ := hos5.form
                obtain ⟨n9, hn9⟩ : ∃ m : Nat, m = (f (canonOf F.key) ++ [Y]).length := ⟨_, rfl⟩
                rw [← hn9] at hu9
                subst hu9
                clear hn9
                have hnew := hO4.put HM.out.2.1 hos5 hg5 hat5
                have hbl : Below w.heap.size w (w5.setCell ⟨g3, j * 2 + 1, none⟩ (.slice A9 n9 c9)) := (((HM.out.2.2.2.2.2.2.1.trans (((Below.refl _ _).drew.trans hb4).mono HM.out.2.2.2.2.2.2.1.size)).alloc (Nat.le_trans HM.out.2.2.2.2.2.2.1.size hb4.size) _).grown hg5 (by have := HM.out.2.2.2.2.2.2.1.size; have := hb4.size; rw [World.size_alloc]; have h1 : w3.drew.heap.size = w3.heap.size := rfl; omega) (fun q hq => ((hO4.vals _ (List.mem_of_getElem? HM.out.2.1)).lt q hq).1)).setCell (p := ⟨g3, j * 2 + 1, none⟩) (hO4.own.lt g3 rfl).1 _
                have hc14 := hO4.store HM.out.2.1 hg5
                have k14 := hc14.1
                have j14 := hc14.2
                have HT := Lib.hid (And.intro hnew (And.intro hbl hr5))
                clear hnew hbl hr5 hos5 hg5 hat5 hc14 hO4
                refine wpAnyH_ready (rs := [11]) (by kernel_rfl) (by simp) ?_
                refine AllReadyH.cons rfl (fun K hK => ?_) AllReadyH.nil
                rw [if_pos (by rfl)]
                refine Lib.wp_append_run _ (.tmp 57) (.tmp 61) 34 34 rfl _ _ rfl rfl _ _ HT.out.2.2 ?_
                refine hK.out _ _ trivial (fun _ => ?_)
                clear hK K
                (try simp only [List.getElem_toArray, List.getElem_cons_succ, List.getElem_cons_zero, Act.put, List.setIfInBounds_toArray, List.set_cons_zero, List.set_cons_succ])
                refine wpAnyH_take (i := 12) (v := ?vh212x8) rfl (by kernel_rfl) (by kernel_rfl) (by kernel_rfl) (fun _ _ _ h => h) (Or.inl ⟨by rfl, ?hh212x8⟩) trivial ?rh212x8
                case hh212x8 => (intro w hSw; (try dsimp only at hSw); go_simp; (try with_reducible rfl))
                (try simp only [List.getElem_toArray, List.getElem_cons_succ, List.getElem_cons_zero, Act.put, List.setIfInBounds_toArray, List.set_cons_zero, List.set_cons_succ])
                refine wpAnyH_take (i := 13) (v := ?vh213x9) rfl (by kernel_rfl) (by kernel_rfl) (by kernel_rfl) (fun _ _ _ h => h) (Or.inl ⟨by rfl, ?hh213x9⟩) trivial ?rh213x9
                case hh213x9 => (intro w hSw; (try dsimp only at hSw); go_simp; (try with_reducible rfl))
                (try simp only [List.getElem_toArray, List.getElem_cons_succ, List.getElem_cons_zero, Act.put, List.setIfInBounds_toArray, List.set_cons_zero, List.set_cons_succ])
                refine wpAnyH_ready (rs := [14]) (by kernel_rfl) (by simp) ?_
                refine AllReadyH.cons rfl (fun K hK => ?_) AllReadyH.nil
                go_simp
                refine hK.out _ _ trivial (fun _ => ?_)
                clear hK K
                (try simp only [List.getElem_toArray, List.getElem_cons_succ, List.getElem_cons_zero, Act.put, List.setIfInBounds_toArray, List.set_cons_zero, List.set_cons_succ])
                refine wpAnyH_done (by kernel_rfl) ?_ _
                go_wp2
                go_roundg (gk0 - 1)
                case measure => have := HK0.out; omega
                case rel => exact ⟨k + 1, by have := HK0.out; omega, by go_num, Lib.hid (HdLp.next HM.out.2.1 HT.out.1 HM.out.2.2.2.1 HM.out.2.2.2.2.1 HM.out.2.2.2.2.2.2.2 HT.out.2.1 HB1.out.2.2.2.2.2.2.1 HY.out)⟩
              · go_simp
                refine hK.out _ _ trivial (fun _ => ?_)
                clear hK K
                (try simp only [List.getElem_toArray, List.getElem_cons_succ, List.getElem_cons_zero, Act.put, List.setIfInBounds_toArray, List.set_cons_zero, List.set_cons_succ])
                refine wpAnyH_ready (rs := [6, 9]) (by kernel_rfl) (by simp) ?_
                refine AllReadyH.cons rfl (fun K hK => ?_) (AllReadyH.cons rfl (fun K hK => ?_) AllReadyH.nil)
                · go_simp
                  refine hK.out _ _ trivial (fun _ => ?_)
                  clear hK K
                  (try simp only [List.getElem_toArray, List.getElem_cons_succ, List.getElem_cons_zero, Act.put, List.setIfInBounds_toArray, List.set_cons_zero, List.set_cons_succ])
                  refine wpAnyH_ready (rs := [9]) (by kernel_rfl) (by simp) ?_
                  refine AllReadyH.cons rfl (fun K hK => ?_) AllReadyH.nil
                  go_simp
                  go_wp2_with (go_at_call 28; refine (HS.out _ (Below.refl _ _).drew).mono ?_; rintro e w4 ⟨rfl, hb4⟩)
                  refine hK.out _ _ trivial (fun _ => ?_)
                  clear hK K
                  (try simp only [List.getElem_toArray, List.getElem_cons_succ, List.getElem_cons_zero, Act.put, List.setIfInBounds_toArray, List.set_cons_zero, List.set_cons_succ])
                  refine wpAnyH_ready (rs := [10]) (by kernel_rfl) (by simp) ?_
                  refine AllReadyH.cons rfl (fun K hK => ?_) AllReadyH.nil
                  go_simp
                  refine hK.out _ _ trivial (fun _ => ?_)
                  clear hK K
                  (try simp only [List.getElem_toArray, List.getElem_cons_succ, List.getElem_cons_zero, Act.put, List.setIfInBounds_toArray, List.set_cons_zero, List.set_cons_succ])
                  have hO4 := HM.out.1.below (((Below.refl _ _).drew.trans hb4).alloc hb4.size (.cells #[.string ⟨Y.toArray⟩] 9))
                  obtain ⟨u5, w5, hr5, hos5, hg5, hat5⟩ := run_append_S 34 34 Tryd.underlying34 (w4.alloc (.cells #[.string ⟨Y.toArray⟩] 9)) w.heap.size (.slice Au nu cu) (f (canonOf F.key)) (hO4.vals _ (List.mem_of_getElem? HM.out.2.1)) (some ⟨w4.heap.size, 0, none⟩) [Y] 1 (SL.one w4 Y 9) (by have := HM.out.2.2.2.2.2.1; simp only [List.length_singleton]; omega) (by have := HM.out.2.2.2.2.2.2.1.size; have := hb4.size; rw [World.size_alloc]; have h1 : w3.drew.heap.size = w3.heap.size := rfl; omega)
                  obtain ⟨A9, c9, hu9, -⟩ := hos5.form
                  obtain ⟨n9, hn9⟩ : ∃ m : Nat, m = (f (canonOf F.key) ++ [Y]).length := ⟨_, rfl⟩
                  rw [← hn9] at hu9
                  subst hu9
                  clear hn9
                  have hnew := hO4.put HM.out.2.1 hos5 hg5 hat5
                  have hbl : Below w.heap.size w (w5.setCell ⟨g3, j * 2 + 1, none⟩ (.slice A9 n9 c9)) := (((HM.out.2.2.2.2.2.2.1.trans (((Below.refl _ _).drew.trans hb4).mono HM.out.2.2.2.2.2.2.1.size)).alloc (Nat.le_trans HM.out.2.2.2.2.2.2.1.size hb4.size) _).grown hg5 (by have := HM.out.2.2.2.2.2.2.1.size; have := hb4.size; rw [World.size_alloc]; have h1 : w3.drew.heap.size = w3.heap.size := rfl; omega) (fun q hq => ((hO4.vals _ (List.mem_of_getElem? HM.out.2.1)).lt q hq).1)).setCell (p := ⟨g3, j * 2 + 1, none⟩) (hO4.own.lt g3 rfl).1 _
                  have hc14 := hO4.store HM.out.2.1 hg5
                  have k14 := hc14.1
                  have j14 := hc14.2
                  have HT := Lib.hid (And.intro hnew (And.intro hbl hr5))
                  clear hnew hbl hr5 hos5 hg5 hat5 hc14 hO4
                  refine wpAnyH_ready (rs := [11]) (by kernel_rfl) (by simp) ?_
                  refine AllReadyH.cons rfl (fun K hK => ?_) AllReadyH.nil
                  rw [if_pos (by rfl)]
                  refine Lib.wp_append_run _ (.tmp 57) (.tmp 61) 34 34 rfl _ _ rfl rfl _ _ HT.out.2.2 ?_
                  refine hK.out _ _ trivial (fun _ => ?_)
                  clear hK K
                  (try simp only [List.getElem_toArray, List.getElem_cons_succ, List.getElem_cons_zero, Act.put, List.setIfInBounds_toArray, List.set_cons_zero, List.set_cons_succ])
                  refine wpAnyH_take (i := 12) (v := ?vh212x10) rfl (by kernel_rfl) (by kernel_rfl) (by kernel_rfl) (fun _ _ _ h => h) (Or.inl ⟨by rfl, ?hh212x10⟩) trivial ?rh212x10
                  case hh212x10 => (intro w hSw; (try dsimp only at hSw); go_simp; (try with_reducible rfl))
                  (try simp only [List.getElem_toArray, List.getElem_cons_succ, List.getElem_cons_zero, Act.put, List.setIfInBounds_toArray, List.set_cons_zero, List.set_cons_succ])
                  refine wpAnyH_take (i := 13) (v := ?vh213x11) rfl (by kernel_rfl) (by kernel_rfl) (by kernel_rfl) (fun _ _ _ h => h) (Or.inl ⟨by rfl, ?hh213x11⟩) trivial ?rh213x11
                  case hh213x11 => (intro w hSw; (try dsimp only at hSw); go_simp; (try with_reducible rfl))
                  (try simp only [List.getElem_toArray, List.getElem_cons_succ, List.getElem_cons_zero, Act.put, List.setIfInBounds_toArray, List.set_cons_zero, List.set_cons_succ])
                  refine wpAnyH_ready (rs := [14]) (by kernel_rfl) (by simp) ?_
                  refine AllReadyH.cons rfl (fun K hK => ?_) AllReadyH.nil
                  go_simp
                  refine hK.out _ _ trivial (fun _ => ?_)
                  clear hK K
                  (try simp only [List.getElem_toArray, List.getElem_cons_succ, List.getElem_cons_zero, Act.put, List.setIfInBounds_toArray, List.set_cons_zero, List.set_cons_succ])
                  refine wpAnyH_done (by kernel_rfl) ?_ _
                  go_wp2
                  go_roundg (gk0 - 1)
                  case measure => have := HK0.out; omega
                  case rel => exact ⟨k + 1, by have := HK0.out; omega, by go_num, Lib.hid (HdLp.next HM.out.2.1 HT.out.1 HM.out.2.2.2.1 HM.out.2.2.2.2.1 HM.out.2.2.2.2.2.2.2 HT.out.2.1 HB1.out.2.2.2.2.2.2.1 HY.out)⟩
                · go_simp
                  go_wp2_with (go_at_call 28; refine (HS.out _ (Below.refl _ _).drew).mono ?_; rintro e w4 ⟨rfl, hb4⟩)
                  have c6 : w4.cell? ⟨g3, j * 2 + 1, none⟩ = some (.slice Au nu cu) := (hb4.cell (p := ⟨g3, j * 2 + 1, none⟩) (World.block_lt_of_cell? _ _ c6)).trans c6
                  refine hK.out _ _ trivial (fun _ => ?_)
                  clear hK K
                  (try simp only [List.getElem_toArray, List.getElem_cons_succ, List.getElem_cons_zero, Act.put, List.setIfInBounds_toArray, List.set_cons_zero, List.set_cons_succ])
                  refine wpAnyH_ready (rs := [6, 10]) (by kernel_rfl) (by simp) ?_
                  refine AllReadyH.cons rfl (fun K hK => ?_) (AllReadyH.cons rfl (fun K hK => ?_) AllReadyH.nil)
                  · go_simp
                    refine hK.out _ _ trivial (fun _ => ?_)
                    clear hK K
                    (try simp only [List.getElem_toArray, List.getElem_cons_succ, List.getElem_cons_zero, Act.put, List.setIfInBounds_toArray, List.set_cons_zero, List.set_cons_succ])
                    refine wpAnyH_ready (rs := [10]) (by kernel_rfl) (by simp) ?_
                    refine AllReadyH.cons rfl (fun K hK => ?_) AllReadyH.nil
                    go_simp
                    refine hK.out _ _ trivial (fun _ => ?_)
                    clear hK K
                    (try simp only [List.getElem_toArray, List.getElem_cons_succ, List.getElem_cons_zero, Act.put, List.setIfInBounds_toArray, List.set_cons_zero, List.set_cons_succ])
                    have hO4 := HM.out.1.below (((Below.refl _ _).drew.trans hb4).alloc hb4.size (.cells #[.string ⟨Y.toArray⟩] 9))
                    obtain ⟨u5, w5, hr5, hos5, hg5, hat5⟩ := run_append_S 34 34 Tryd.underlying34 (w4.alloc (.cells #[.string ⟨Y.toArray⟩] 9)) w.heap.size (.slice Au nu cu) (f (canonOf F.key)) (hO4.vals _ (List.mem_of_getElem? HM.out.2.1)) (some ⟨w4.heap.size, 0, none⟩) [Y] 1 (SL.one w4 Y 9) (by have := HM.out.2.2.2.2.2.1; simp only [List.length_singleton]; omega) (by have := HM.out.2.2.2.2.2.2.1.size; have := hb4.size; rw [World.size_alloc]; have h1 : w3.drew.heap.size = w3.heap.size := rfl; omega)
                    obtain ⟨A9, c9, hu9, -⟩ := hos5.form
                    obtain ⟨n9, hn9⟩ : ∃ m : Nat, m = (f (canonOf F.key) ++ [Y]).length := ⟨_, rfl⟩
                    rw [← hn9] at hu9
                    subst hu9
                    clear hn9
                    have hnew := hO4.put HM.out.2.1 hos5 hg5 hat5
                    have hbl : Below w.heap.size w (w5.setCell ⟨g3, j * 2 + 1, none⟩ (.slice A9 n9 c9)) := (((HM.out.2.2.2.2.2.2.1.trans (((Below.refl _ _).drew.trans hb4).mono HM.out.2.2.2.2.2.2.1.size)).alloc (Nat.le_trans HM.out.2.2.2.2.2.2.1.size hb4.size) _).grown hg5 (by have := HM.out.2.2.2.2.2.2.1.size; have := hb4.size; rw [World.size_alloc]; have h1 : w3.drew.heap.size = w3.heap.size := rfl; omega) (fun q hq => ((hO4.vals _ (List.mem_of_getElem? HM.out.2.1)).lt q hq).1)).setCell (p := ⟨g3, j * 2 + 1, none⟩) (hO4.own.lt g3 rfl).1 _
                    have hc14 := hO4.store HM.out.2.1 hg5
                    have k14 := hc14.1
                    have j14 := hc14.2
                    have HT := Lib.hid (And.intro hnew (And.intro hbl hr5))
                    clear hnew hbl hr5 hos5 hg5 hat5 hc14 hO4
                    refine wpAnyH_ready (rs := [11]) (by kernel_rfl) (by simp) ?_
                    refine AllReadyH.cons rfl (fun K hK => ?_) AllReadyH.nil
                    rw [if_pos (by rfl)]
                    refine Lib.wp_append_run _ (.tmp 57) (.tmp 61) 34 34 rfl _ _ rfl rfl _ _ HT.out.2.2 ?_
                    refine hK.out _ _ trivial (fun _ => ?_)
                    clear hK K
                    (try simp only [List.getElem_toArray, List.getElem_cons_succ, List.getElem_cons_zero, Act.put, List.setIfInBounds_toArray, List.set_cons_zero, List.set_cons_succ])
                    refine wpAnyH_take (i := 12) (v := ?vh212x12) rfl (by kernel_rfl) (by kernel_rfl) (by kernel_rfl) (fun _ _ _ h => h) (Or.inl ⟨by rfl, ?hh212x12⟩) trivial ?rh212x12
                    case hh212x12 => (intro w hSw; (try dsimp only at hSw); go_simp; (try with_reducible rfl))
                    (try simp only [List.getElem_toArray, List.getElem_cons_succ, List.getElem_cons_zero, Act.put, List.setIfInBounds_toArray, List.set_cons_zero, List.set_cons_succ])
                    refine wpAnyH_take (i := 13) (v := ?vh213x13) rfl (by kernel_rfl) (by kernel_rfl) (by kernel_rfl) (fun _ _ _ h => h) (Or.inl ⟨by rfl, ?hh213x13⟩) trivial ?rh213x13
                    case hh213x13 => (intro w hSw; (try dsimp only at hSw); go_simp; (try with_reducible rfl))
                    (try simp only [List.getElem_toArray, List.getElem_cons_succ, List.getElem_cons_zero, Act.put, List.setIfInBounds_toArray, List.set_cons_zero, List.set_cons_succ])
                    refine wpAnyH_ready (rs := [14]) (by kernel_rfl) (by simp) ?_
                    refine AllReadyH.cons rfl (fun K hK => ?_) AllReadyH.nil
                    go_simp
                    refine hK.out _ _ trivial (fun _ => ?_)
                    clear hK K
                    (try simp only [List.getElem_toArray, List.getElem_cons_succ, List.getElem_cons_zero, Act.put, List.setIfInBounds_toArray, List.set_cons_zero, List.set_cons_succ])
                    refine wpAnyH_done (by kernel_rfl) ?_ _
                    go_wp2
                    go_roundg (gk0 - 1)
                    case measure => have := HK0.out; omega
                    case rel => exact ⟨k + 1, by have := HK0.out; omega, by go_num, Lib.hid (HdLp.next HM.out.2.1 HT.out.1 HM.out.2.2.2.1 HM.out.2.2.2.2.1 HM.out.2.2.2.2.2.2.2 HT.out.2.1 HB1.out.2.2.2.2.2.2.1 HY.out)⟩
                  · have c6 := Lib.cell?_alloc_some (.cells #[.string ⟨Y.toArray⟩] 9) c6
                    go_simp
                    refine hK.out _ _ trivial (fun _ => ?_)
                    clear hK K
                    (try simp only [List.getElem_toArray, List.getElem_cons_succ, List.getElem_cons_zero, Act.put, List.setIfInBounds_toArray, List.set_cons_zero, List.set_cons_succ])
                    refine wpAnyH_ready (rs := [6]) (by kernel_rfl) (by simp) ?_
                    refine AllReadyH.cons rfl (fun K hK => ?_) AllReadyH.nil
                    go_simp
                    refine hK.out _ _ trivial (fun _ => ?_)
                    clear hK K
                    (try simp only [List.getElem_toArray, List.getElem_cons_succ, List.getElem_cons_zero, Act.put, List.setIfInBounds_toArray, List.set_cons_zero, List.set_cons_succ])
                    have hO4 := HM.out.1.below (((Below.refl _ _).drew.trans hb4).alloc hb4.size (.cells #[.string ⟨Y.toArray⟩] 9))
                    obtain ⟨u5, w5, hr5, hos5, hg5, hat5⟩ := run_append_S 34 34 Tryd.underlying34 (w4.alloc (.cells #[.string ⟨Y.toArray⟩] 9)) w.heap.size (.slice Au nu cu) (f (canonOf F.key)) (hO4.vals _ (List.mem_of_getElem? HM.out.2.1)) (some ⟨w4.heap.size, 0, none⟩) [Y] 1 (SL.one w4 Y 9) (by have := HM.out.2.2.2.2.2.1; simp only [List.length_singleton]; omega) (by have := HM.out.2.2.2.2.2.2.1.size; have := hb4.size; rw [World.size_alloc]; have h1 : w3.drew.heap.size = w3.heap.size := rfl; omega)
                    obtain ⟨A9, c9, hu9, -⟩ := hos5.form
                    obtain ⟨n9, hn9⟩ : ∃ m : Nat, m = (f (canonOf F.key) ++ [Y]).length := ⟨_, rfl⟩
                    rw [← hn9] at hu9
                    subst hu9
                    clear hn9
                    have hnew := hO4.put HM.out.2.1 hos5 hg5 hat5
                    have hbl : Below w.heap.size w (w5.setCell ⟨g3, j * 2 + 1, none⟩ (.slice A9 n9 c9)) := (((HM.out.2.2.2.2.2.2.1.trans (((Below.refl _ _).drew.trans hb4).mono HM.out.2.2.2.2.2.2.1.size)).alloc (Nat.le_trans HM.out.2.2.2.2.2.2.1.size hb4.size) _).grown hg5 (by have := HM.out.2.2.2.2.2.2.1.size; have := hb4.size; rw [World.size_alloc]; have h1 : w3.drew.heap.size = w3.heap.size := rfl; omega) (fun q hq => ((hO4.vals _ (List.mem_of_getElem? HM.out.2.1)).lt q hq).1)).setCell (p := ⟨g3, j * 2 + 1, none⟩) (hO4.own.lt g3 rfl).1 _
                    have hc14 := hO4.store HM.out.2.1 hg5
                    have k14 := hc14.1
                    have j14 := hc14.2
                    have HT := Lib.hid (And.intro hnew (And.intro hbl hr5))
                    clear hnew hbl hr5 hos5 hg5 hat5 hc14 hO4
                    refine wpAnyH_ready (rs := [11]) (by kernel_rfl) (by simp) ?_
                    refine AllReadyH.cons rfl (fun K hK => ?_) AllReadyH.nil
                    rw [if_pos (by rfl)]
                    refine Lib.wp_append_run _ (.tmp 57) (.tmp 61) 34 34 rfl _ _ rfl rfl _ _ HT.out.2.2 ?_
                    refine hK.out _ _ trivial (fun _ => ?_)
                    clear hK K
                    (try simp only [List.getElem_toArray, List.getElem_cons_succ, List.getElem_cons_zero, Act.put, List.setIfInBounds_toArray, List.set_cons_zero, List.set_cons_succ])
                    refine wpAnyH_take (i := 12) (v := ?vh212x14) rfl (by kernel_rfl) (by kernel_rfl) (by kernel_rfl) (fun _ _ _ h => h) (Or.inl ⟨by rfl, ?hh212x14⟩) trivial ?rh212x14
                    case hh212x14 => (intro w hSw; (try dsimp only at hSw); go_simp; (try with_reducible rfl))
                    (try simp only [List.getElem_toArray, List.getElem_cons_succ, List.getElem_cons_zero, Act.put, List.setIfInBounds_toArray, List.set_cons_zero, List.set_cons_succ])
                    refine wpAnyH_take (i := 13) (v := ?vh213x15) rfl (by kernel_rfl) (by kernel_rfl) (by kernel_rfl) (fun _ _ _ h => h) (Or.inl ⟨by rfl, ?hh213x15⟩) trivial ?rh213x15
                    case hh213x15 => (intro w hSw; (try dsimp only at hSw); go_simp; (try with_reducible rfl))
                    (try simp only [List.getElem_toArray, List.getElem_cons_succ, List.getElem_cons_zero, Act.put, List.setIfInBounds_toArray, List.set_cons_zero, List.set_cons_succ])
                    refine wpAnyH_ready (rs := [14]) (by kernel_rfl) (by simp) ?_
                    refine AllReadyH.cons rfl (fun K hK => ?_) AllReadyH.nil
                    go_simp
                    refine hK.out _ _ trivial (fun _ => ?_)
                    clear hK K
                    (try simp only [List.getElem_toArray, List.getElem_cons_succ, List.getElem_cons_zero, Act.put, List.setIfInBounds_toArray, List.set_cons_zero, List.set_cons_succ])
                    refine wpAnyH_done (by kernel_rfl) ?_ _
                    go_wp2
                    go_roundg (gk0 - 1)
                    case measure => have := HK0.out; omega
                    case rel => exact ⟨k + 1, by have := HK0.out; omega, by go_num, Lib.hid (HdLp.next HM.out.2.1 HT.out.1 HM.out.2.2.2.1 HM.out.2.2.2.2.1 HM.out.2.2.2.2.2.2.2 HT.out.2.1 HB1.out.2.2.2.2.2.2.1 HY.out)⟩
        · obtain rfl : j = E.length := by omega
          have hpos : PosAt E E.length (canonOf F.key) := ⟨hlo.out, fun e' he' => by rw [List.getElem?_eq_none (Nat.le_refl _)] at he'; cases he'⟩
          have hne : ∀ e', E[E.length]? = some e' → e'.1 ≠ canonOf F.key := fun e' he' => by rw [List.getElem?_eq_none (Nat.le_refl _)] at he'; cases he'
          have hjl2 : E.length ≤ E.length := Nat.le_refl _
          have hknew : canonOf F.key ∉ E.map (·.1) := hpos.fresh H2.out.1.sorted hne
          have hfk : f (canonOf F.key) = [] := Classical.byContradiction fun h => hknew ((HB1.out.2.2.2.1 _).2 h)
          have hO2' := H2.out.1.below ((Below.refl _ wr).alloc (Nat.le_refl _) (.cells #[.string ⟨(canonOf F.key).toArray⟩, .slice none 0 0] 51))
          have hin := insert_any (i := E.length) hO2'.own hO2'.shape (Blk.new wr #[.string ⟨(canonOf F.key).toArray⟩, .slice none 0 0] 51) (fun e => by have := (H2.out.1.own.lt _ e).2; omega) (by omega) (by omega) (by have := H2.out.2.2.2.1.size; rw [World.size_alloc]; omega)
          have HI := Lib.hid (And.intro hin (And.intro hO2' (And.intro hpos (And.intro hne (And.intro hfk hjl2)))))
          clear hin hO2' hpos hne hfk hknew
          go_wp2_with (go_at_call 27; refine HI.out.1.mono ?_; rintro e3 w3 hins; obtain ⟨A3, c3, rfl, hO3, hg3⟩ := HI.out.2.1.inserted HI.out.2.2.1 HI.out.2.2.2.1 HI.out.2.2.2.2.1 HI.out.2.2.2.2.2 hins; refine Hid.out ?_)
          obtain ⟨A0, cz, e0, -, -, hkr3, -⟩ := hO3.own.form
          injection e0 with ea el ec
          clear el
          subst ea
          subst ec
          obtain ⟨g3, rfl, hx3⟩ := hkr3 (by intro h; have h1 := congrArg List.length h; rw [insE_length _ _ _ HI.out.2.2.2.2.2] at h1; simp at h1)
          have hat := insE_at E E.length (canonOf F.key) HI.out.2.2.2.2.2
          have c6 := (hx3 E.length _ hat).2
          have hkk : ∀ q, q ∈ (insE E E.length (canonOf F.key)).map (·.1) ↔ (f q ≠ [] ∨ q = canonOf F.key) := fun q => by
            rw [insE_keys, ← HB1.out.2.2.2.1 q]
            conv => rhs; rw [← List.take_append_drop E.length E, List.map_append]
            simp only [List.mem_append, List.mem_cons]
            constructor
            · rintro (h | h | h)
              · exact .inl (.inl h)
              · exact .inr h
              · exact .inl (.inr h)
            · rintro ((h | h) | h)
              · exact .inl h
              · exact .inr (.inr h)
              · exact .inr (.inl h)
          have hB3 : Below w.heap.size w w3 := (H2.out.2.2.2.1.alloc H2.out.2.2.2.1.size _).grown hg3 (by have := H2.out.2.2.2.1.size; rw [World.size_alloc]; omega) (fun q hq => (H2.out.1.own.lt q hq).1)
          have hfb3 : w3.heap[fb]? = wr.heap[fb]? := (hg3.block fb (by have := H2.out.2.2.2.2; rw [World.size_alloc]; omega) (fun e => by have := H2.out.2.2.1 fb e.symm; omega)).trans (heap_alloc_old wr _ H2.out.2.2.2.2)
          have p1' : w3.cell? ⟨fb, 1, none⟩ = some (.slice B F.val.ps.length c') := (World.cell?_of_block (a := ⟨fb, 1, none⟩) hfb3).trans p1
          have p2' : w3.cell? ⟨fb, 2, none⟩ = some (.string ⟨F.val.bl.toArray⟩) := (World.cell?_of_block (a := ⟨fb, 2, none⟩) hfb3).trans p2
          have p3' : w3.cell? ⟨fb, 3, none⟩ = some (.bool F.val.feed) := (World.cell?_of_block (a := ⟨fb, 3, none⟩) hfb3).trans p3
          have hjb : (E.length : Int) < (E.length : Int) + 1 := by have := HI.out.2.2.2.2.2; omega
          have hsl3 : SL w3 B F.val.ps := HB1.out.2.1.below hB3
          have HM := Lib.hid (And.intro hO3 (And.intro hat (And.intro trivial (And.intro hkk (And.intro (show (insE E E.length (canonOf F.key)).length ≤ k + 1 by rw [insE_length _ _ _ HI.out.2.2.2.2.2]; have := HB1.out.2.2.2.2.1; omega) (And.intro (show (f (canonOf F.key)).length ≤ 1000 by have := HB1.out.2.2.2.2.2.1 (canonOf F.key); have := HK0.out.1; omega) (And.intro hB3 HB1.out.2.2.2.2.2.1)))))))
          clear p1 p2 p3 hO3 hat hkk hB3 hfb3 hg3 hx3 hkr3 hins
          obtain ⟨uu, huu⟩ : ∃ uu, uu = Value.slice none 0 0 := ⟨_, rfl⟩
          rw [← huu] at c6 HM
          obtain ⟨Au, nu, cu, hu⟩ : ∃ Au nu cu, uu = .slice Au nu cu := ⟨_, _, _, huu⟩
          clear huu
          subst hu
          obtain ⟨Y, hY⟩ : ∃ Y, Y = saysR F.val.ps := ⟨_, rfl⟩
          have hsy := saysR_le F.val.ps
          have hwd : F.val.wt = wtS F.val.ps + F.val.bl.length + 1 := rfl
          have HS := Lib.hid (fun W (hW : Below w3.heap.size w3 W) => longSays_any F.val B c' W (hsl3.below hW) (by have := HB1.out.2.2.2.2.2.2.2.2.1.2; omega) HB1.out.2.2.2.2.2.2.2.1.2.2.1)
          rw [← hY] at HS
          have HY := Lib.hid hY
          clear hY hsy hwd
          refine Lib.hid ?_
          go_wp2
          refine wp_region_held_drew (S := fun _ => True) (by kernel_rfl) trivial (fun hHeld => ?_)
          refine wpAnyH_take (i := 0) (v := ?vh30x1) rfl (by kernel_rfl) (by kernel_rfl) (by kernel_rfl) (fun _ _ _ h => h) (Or.inl ⟨by rfl, ?hh30x1⟩) trivial ?rh30x1
          case hh30x1 => (intro w hSw; (try dsimp only at hSw); go_simp; (try with_reducible rfl))
          (try simp only [List.getElem_toArray, List.getElem_cons_zero, Act.put, List.setIfInBounds_toArray, List.set_cons_zero, List.set_cons_succ])
          refine wpAnyH_take (i := 1) (v := ?vh31x2) rfl (by kernel_rfl) (by kernel_rfl) (by kernel_rfl) (fun _ _ _ h => h) (Or.inl ⟨by rfl, ?hh31x2⟩) trivial ?rh31x2
          case hh31x2 => (intro w hSw; (try dsimp only at hSw); go_simp; (try with_reducible rfl))
          (try simp only [List.getElem_toArray, List.getElem_cons_succ, List.getElem_cons_zero, Act.put, List.setIfInBounds_toArray, List.set_cons_zero, List.set_cons_succ])
          refine wpAnyH_take (i := 2) (v := ?vh32x3) rfl (by kernel_rfl) (by kernel_rfl) (by kernel_rfl) (fun _ _ _ h => h) (Or.inl ⟨by rfl, ?hh32x3⟩) trivial ?rh32x3
          case hh32x3 => (intro w hSw; (try dsimp only at hSw); go_simp; (try with_reducible rfl))
          (try simp only [List.getElem_toArray, List.getElem_cons_succ, List.getElem_cons_zero, Act.put, List.setIfInBounds_toArray, List.set_cons_zero, List.set_cons_succ])
          refine wpAnyH_take (i := 3) (v := ?vh33x4) rfl (by kernel_rfl) (by kernel_rfl) (by kernel_rfl) (fun _ _ _ h => h) (Or.inl ⟨by rfl, ?hh33x4⟩) trivial ?rh33x4
          case hh33x4 => (intro w hSw; (try dsimp only at hSw); go_simp; (try with_reducible rfl))
          (try simp only [List.getElem_toArray, List.getElem_cons_succ, List.getElem_cons_zero, Act.put, List.setIfInBounds_toArray, List.set_cons_zero, List.set_cons_succ])
          refine wpAnyH_take (i := 4) (v := ?vh34x5) rfl (by kernel_rfl) (by kernel_rfl) (by kernel_rfl) (fun _ _ _ h => h) (Or.inl ⟨by rfl, ?hh34x5⟩) trivial ?rh34x5
          case hh34x5 => (intro w hSw; (try dsimp only at hSw); go_simp; (try with_reducible rfl))
          (try simp only [List.getElem_toArray, List.getElem_cons_succ, List.getElem_cons_zero, Act.put, List.setIfInBounds_toArray, List.set_cons_zero, List.set_cons_succ])
          refine wpAnyH_take (i := 5) (v := ?vh35x6) rfl (by kernel_rfl) (by kernel_rfl) (by kernel_rfl) (fun _ _ _ h => h) (Or.inl ⟨by rfl, ?hh35x6⟩) trivial ?rh35x6
          case hh35x6 => (intro w hSw; (try dsimp only at hSw); go_simp; (try with_reducible rfl))
          (try simp only [List.getElem_toArray, List.getElem_cons_succ, List.getElem_cons_zero, Act.put, List.setIfInBounds_toArray, List.set_cons_zero, List.set_cons_succ])
          refine wpAnyH_take (i := 7) (v := ?vh37x7) rfl (by kernel_rfl) (by kernel_rfl) (by kernel_rfl) (fun _ _ _ h => h) (Or.inl ⟨by rfl, ?hh37x7⟩) trivial ?rh37x7
          case hh37x7 => (intro w hSw; (try dsimp only at hSw); go_simp; (try with_reducible rfl))
          (try simp only [List.getElem_toArray, List.getElem_cons_succ, List.getElem_cons_zero, Act.put, List.setIfInBounds_toArray, List.set_cons_zero, List.set_cons_succ])
          refine wpAnyH_ready (rs := [6, 8]) (by kernel_rfl) (by simp) ?_
          refine AllReadyH.cons rfl (fun K hK => ?_) (AllReadyH.cons rfl (fun K hK => ?_) AllReadyH.nil)
          · go_simp
            refine hK.out _ _ trivial (fun _ => ?_)
            clear hK K
            (try simp only [List.getElem_toArray, List.getElem_cons_succ, List.getElem_cons_zero, Act.put, List.setIfInBounds_toArray, List.set_cons_zero, List.set_cons_succ])
            refine wpAnyH_ready (rs := [8]) (by kernel_rfl) (by simp) ?_
            refine AllReadyH.cons rfl (fun K hK => ?_) AllReadyH.nil
            go_simp
            refine hK.out _ _ trivial (fun _ => ?_)
            clear hK K
            (try simp only [List.getElem_toArray, List.getElem_cons_succ, List.getElem_cons_zero, Act.put, List.setIfInBounds_toArray, List.set_cons_zero, List.set_cons_succ])
            refine wpAnyH_ready (rs := [9]) (by kernel_rfl) (by simp) ?_
            refine AllReadyH.cons rfl (fun K hK => ?_) AllReadyH.nil
            go_simp
            go_wp2_with (go_at_call 28; refine (HS.out _ (Below.refl _ _).drew).mono ?_; rintro e w4 ⟨rfl, hb4⟩)
            refine hK.out _ _ trivial (fun _ => ?_)
            clear hK K
            (try simp only [List.getElem_toArray, List.getElem_cons_succ, List.getElem_cons_zero, Act.put, List.setIfInBounds_toArray, List.set_cons_zero, List.set_cons_succ])
            refine wpAnyH_ready (rs := [10]) (by kernel_rfl) (by simp) ?_
            refine AllReadyH.cons rfl (fun K hK => ?_) AllReadyH.nil
            go_simp
            refine hK.out _ _ trivial (fun _ => ?_)
            clear hK K
            (try simp only [List.getElem_toArray, List.getElem_cons_succ, List.getElem_cons_zero, Act.put, List.setIfInBounds_toArray, List.set_cons_zero, List.set_cons_succ])
            have hO4 := HM.out.1.below (((Below.refl _ _).drew.trans hb4).alloc hb4.size (.cells #[.string ⟨Y.toArray⟩] 9))
            obtain ⟨u5, w5, hr5, hos5, hg5, hat5⟩ := run_append_S 34 34 Tryd.underlying34 (w4.alloc (.cells #[.string ⟨Y.toArray⟩] 9)) w.heap.size (.slice Au nu cu) (f (canonOf F.key)) (hO4.vals _ (List.mem_of_getElem? HM.out.2.1)) (some ⟨w4.heap.size, 0, none⟩) [Y] 1 (SL.one w4 Y 9) (by have := HM.out.2.2.2.2.2.1; simp only [List.length_singleton]; omega) (by have := HM.out.2.2.2.2.2.2.1.size; have := hb4.size; rw [World.size_alloc]; have h1 : w3.drew.heap.size = w3.heap.size := rfl; omega)
            obtain ⟨A9, c9, hu9, -⟩ := hos5.form
            obtain ⟨n9, hn9⟩ : ∃ m : Nat, m = (f (canonOf F.key) ++ [Y]).length := ⟨_, rfl⟩
            rw [← hn9] at hu9
            subst hu9
            clear hn9
            have hnew := hO4.put HM.out.2.1 hos5 hg5 hat5
            have hbl : Below w.heap.size w (w5.setCell ⟨g3, E.length * 2 + 1, none⟩ (.slice A9 n9 c9)) := (((HM.out.2.2.2.2.2.2.1.trans (((Below.refl _ _).drew.trans hb4).mono HM.out.2.2.2.2.2.2.1.size)).alloc (Nat.le_trans HM.out.2.2.2.2.2.2.1.size hb4.size) _).grown hg5 (by have := HM.out.2.2.2.2.2.2.1.size; have := hb4.size; rw [World.size_alloc]; have h1 : w3.drew.heap.size = w3.heap.size := rfl; omega) (fun q hq => ((hO4.vals _ (List.mem_of_getElem? HM.out.2.1)).lt q hq).1)).setCell (p := ⟨g3, E.length * 2 + 1, none⟩) (hO4.own.lt g3 rfl).1 _
            have hc14 := hO4.store HM.out.2.1 hg5
            have k14 := hc14.1
            have j14 := hc14.2
            have HT := Lib.hid (And.intro hnew (And.intro hbl hr5))
            clear hnew hbl hr5 hos5 hg5 hat5 hc14 hO4
            refine wpAnyH_ready (rs := [11]) (by kernel_rfl) (by simp) ?_
            refine AllReadyH.cons rfl (fun K hK => ?_) AllReadyH.nil
            rw [if_pos (by rfl)]
            refine Lib.wp_append_run _ (.tmp 57) (.tmp 61) 34 34 rfl _ _ rfl rfl _ _ HT.out.2.2 ?_
            refine hK.out _ _ trivial (fun _ => ?_)
            clear hK K
            (try simp only [List.getElem_toArray, List.getElem_cons_succ, List.getElem_cons_zero, Act.put, List.setIfInBounds_toArray, List.set_cons_zero, List.set_cons_succ])
            refine wpAnyH_take (i := 12) (v := ?vh312x8) rfl (by kernel_rfl) (by kernel_rfl) (by kernel_rfl) (fun _ _ _ h => h) (Or.inl ⟨by rfl, ?hh312x8⟩) trivial ?rh312x8
            case hh312x8 => (intro w hSw; (try dsimp only at hSw); go_simp; (try with_reducible rfl))
            (try simp only [List.getElem_toArray, List.getElem_cons_succ, List.getElem_cons_zero, Act.put, List.setIfInBounds_toArray, List.set_cons_zero, List.set_cons_succ])
            refine wpAnyH_take (i := 13) (v := ?vh313x9) rfl (by kernel_rfl) (by kernel_rfl) (by kernel_rfl) (fun _ _ _ h => h) (Or.inl ⟨by rfl, ?hh313x9⟩) trivial ?rh313x9
            case hh313x9 => (intro w hSw; (try dsimp only at hSw); go_simp; (try with_reducible rfl))
            (try simp only [List.getElem_toArray, List.getElem_cons_succ, List.getElem_cons_zero, Act.put, List.setIfInBounds_toArray, List.set_cons_zero, List.set_cons_succ])
            refine wpAnyH_ready (rs := [14]) (by kernel_rfl) (by simp) ?_
            refine AllReadyH.cons rfl (fun K hK => ?_) AllReadyH.nil
            go_simp
            refine hK.out _ _ trivial (fun _ => ?_)
            clear hK K
            (try simp only [List.getElem_toArray, List.getElem_cons_succ, List.getElem_cons_zero, Act.put, List.setIfInBounds_toArray, List.set_cons_zero, List.set_cons_succ])
            refine wpAnyH_done (by kernel_rfl) ?_ _
            go_wp2
            go_roundg (gk0 - 1)
            case measure => have := HK0.out; omega
            case rel => exact ⟨k + 1, by have := HK0.out; omega, by go_num, Lib.hid (HdLp.next HM.out.2.1 HT.out.1 HM.out.2.2.2.1 HM.out.2.2.2.2.1 HM.out.2.2.2.2.2.2.2 HT.out.2.1 HB1.out.2.2.2.2.2.2.1 HY.out)⟩
          · go_simp
            refine hK.out _ _ trivial (fun _ => ?_)
            clear hK K
            (try simp only [List.getElem_toArray, List.getElem_cons_succ, List.getElem_cons_zero, Act.put, List.setIfInBounds_toArray, List.set_cons_zero, List.set_cons_succ])
            refine wpAnyH_ready (rs := [6, 9]) (by kernel_rfl) (by simp) ?_
            refine AllReadyH.cons rfl (fun K hK => ?_) (AllReadyH.cons rfl (fun K hK => ?_) AllReadyH.nil)
            · go_simp
              refine hK.out _ _ trivial (fun _ => ?_)
              clear hK K
              (try simp only [List.getElem_toArray, List.getElem_cons_succ, List.getElem_cons_zero, Act.put, List.setIfInBounds_toArray, List.set_cons_zero, List.set_cons_succ])
              refine wpAnyH_ready (rs := [9]) (by kernel_rfl) (by simp) ?_
              refine AllReadyH.cons rfl (fun K hK => ?_) AllReadyH.nil
              go_simp
              go_wp2_with (go_at_call 28; refine (HS.out _ (Below.refl _ _).drew).mono ?_; rintro e w4 ⟨rfl, hb4⟩)
              refine hK.out _ _ trivial (fun _ => ?_)
              clear hK K
              (try simp only [List.getElem_toArray, List.getElem_cons_succ, List.getElem_cons_zero, Act.put, List.setIfInBounds_toArray, List.set_cons_zero, List.set_cons_succ])
              refine wpAnyH_ready (rs := [10]) (by kernel_rfl) (by simp) ?_
              refine AllReadyH.cons rfl (fun K hK => ?_) AllReadyH.nil
              go_simp
              refine hK.out _ _ trivial (fun _ => ?_)
              clear hK K
              (try simp only [List.getElem_toArray, List.getElem_cons_succ, List.getElem_cons_zero, Act.put, List.setIfInBounds_toArray, List.set_cons_zero, List.set_cons_succ])
              have hO4 := HM.out.1.below (((Below.refl _ _).drew.trans hb4).alloc hb4.size (.cells #[.string ⟨Y.toArray⟩] 9))
              obtain ⟨u5, w5, hr5, hos5, hg5, hat5⟩ := run_append_S 34 34 Tryd.underlying34 (w4.alloc (.cells #[.string ⟨Y.toArray⟩] 9)) w.heap.size (.slice Au nu cu) (f (canonOf F.key)) (hO4.vals _ (List.mem_of_getElem? HM.out.2.1)) (some ⟨w4.heap.size, 0, none⟩) [Y] 1 (SL.one w4 Y 9) (by have := HM.out.2.2.2.2.2.1; simp only [List.length_singleton]; omega) (by have := HM.out.2.2.2.2.2.2.1.size; have := hb4.size; rw [World.size_alloc]; have h1 : w3.drew.heap.size = w3.heap.size := rfl; omega)
              obtain ⟨A9, c9, hu9, -⟩ := hos5.form
              obtain ⟨n9, hn9⟩ : ∃ m : Nat, m = (f (canonOf F.key) ++ [Y]).length := ⟨_, rfl⟩
              rw [← hn9] at hu9
              subst hu9
              clear hn9
              have hnew := hO4.put HM.out.2.1 hos5 hg5 hat5
              have hbl : Below w.heap.size w (w5.setCell ⟨g3, E.length * 2 + 1, none⟩ (.slice A9 n9 c9)) := (((HM.out.2.2.2.2.2.2.1.trans (((Below.refl _ _).drew.trans hb4).mono HM.out.2.2.2.2.2.2.1.size)).alloc (Nat.le_trans HM.out.2.2.2.2.2.2.1.size hb4.size) _).grown hg5 (by have := HM.out.2.2.2.2.2.2.1.size; have := hb4.size; rw [World.size_alloc]; have h1 : w3.drew.heap.size = w3.heap.size := rfl; omega) (fun q hq => ((hO4.vals _ (List.mem_of_getElem? HM.out.2.1)).lt q hq).1)).setCell (p := ⟨g3, E.length * 2 + 1, none⟩) (hO4.own.lt g3 rfl).1 _
              have hc14 := hO4.store HM.out.2.1 hg5
              have k14 := hc14.1
              have j14 := hc14.2
              have HT := Lib.hid (And.intro hnew (And.intro hbl hr5))
              clear hnew hbl hr5 hos5 hg5 hat5 hc14 hO4
              refine wpAnyH_ready (rs := [11]) (by kernel_rfl) (by simp) ?_
              refine AllReadyH.cons rfl (fun K hK => ?_) AllReadyH.nil
              rw [if_pos (by rfl)]
              refine Lib.wp_append_run _ (.tmp 57) (.tmp 61) 34 34 rfl _ _ rfl rfl _ _ HT.out.2.2 ?_
              refine hK.out _ _ trivial (fun _ => ?_)
              clear hK K
              (try simp only [List.getElem_toArray, List.getElem_cons_succ, List.getElem_cons_zero, Act.put, List.setIfInBounds_toArray, List.set_cons_zero, List.set_cons_succ])
              refine wpAnyH_take (i := 12) (v := ?vh312x10) rfl (by kernel_rfl) (by kernel_rfl) (by kernel_rfl) (fun _ _ _ h => h) (Or.inl ⟨by rfl, ?hh312x10⟩) trivial ?rh312x10
              case hh312x10 => (intro w hSw; (try dsimp only at hSw); go_simp; (try with_reducible rfl))
              (try simp only [List.getElem_toArray, List.getElem_cons_succ, List.getElem_cons_zero, Act.put, List.setIfInBounds_toArray, List.set_cons_zero, List.set_cons_succ])
              refine wpAnyH_take (i := 13) (v := ?vh313x11) rfl (by kernel_rfl) (by kernel_rfl) (by kernel_rfl) (fun _ _ _ h => h) (Or.inl ⟨by rfl, ?hh313x11⟩) trivial ?rh313x11
              case hh313x11 => (intro w hSw; (try dsimp only at hSw); go_simp; (try with_reducible rfl))
              (try simp only [List.getElem_toArray, List.getElem_cons_succ, List.getElem_cons_zero, Act.put, List.setIfInBounds_toArray, List.set_cons_zero, List.set_cons_succ])
              refine wpAnyH_ready (rs := [14]) (by kernel_rfl) (by simp) ?_
              refine AllReadyH.cons rfl (fun K hK => ?_) AllReadyH.nil
              go_simp
              refine hK.out _ _ trivial (fun _ => ?_)
              clear hK K
              (try simp only [List.getElem_toArray, List.getElem_cons_succ, List.getElem_cons_zero, Act.put, List.setIfInBounds_toArray, List.set_cons_zero, List.set_cons_succ])
              refine wpAnyH_done (by kernel_rfl) ?_ _
              go_wp2
              go_roundg (gk0 - 1)
              case measure => have := HK0.out; omega
              case rel => exact ⟨k + 1, by have := HK0.out; omega, by go_num, Lib.hid (HdLp.next HM.out.2.1 HT.out.1 HM.out.2.2.2.1 HM.out.2.2.2.2.1 HM.out.2.2.2.2.2.2.2 HT.out.2.1 HB1.out.2.2.2.2.2.2.1 HY.out)⟩
            · go_simp
              go_wp2_with (go_at_call 28; refine (HS.out _ (Below.refl _ _).drew).mono ?_; rintro e w4 ⟨rfl, hb4⟩)
              have c6 : w4.cell? ⟨g3, E.length * 2 + 1, none⟩ = some (.slice Au nu cu) := (hb4.cell (p := ⟨g3, E.length * 2 + 1, none⟩) (World.block_lt_of_cell? _ _ c6)).trans c6
              refine hK.out _ _ trivial (fun _ => ?_)
              clear hK K
              (try simp only [List.getElem_toArray, List.getElem_cons_succ, List.getElem_cons_zero, Act.put, List.setIfInBounds_toArray, List.set_cons_zero, List.set_cons_succ])
              refine wpAnyH_ready (rs := [6, 10]) (by kernel_rfl) (by simp) ?_
              refine AllReadyH.cons rfl (fun K hK => ?_) (AllReadyH.cons rfl (fun K hK => ?_) AllReadyH.nil)
              · go_simp
                refine hK.out _ _ trivial (fun _ => ?_)
                clear hK K
                (try simp only [List.getElem_toArray, List.getElem_cons_succ, List.getElem_cons_zero, Act.put, List.setIfInBounds_toArray, List.set_cons_zero, List.set_cons_succ])
                refine wpAnyH_ready (rs := [10]) (by kernel_rfl) (by simp) ?_
                refine AllReadyH.cons rfl (fun K hK => ?_) AllReadyH.nil
                go_simp
                refine hK.out _ _ trivial (fun _ => ?_)
                clear hK K
                (try simp only [List.getElem_toArray, List.getElem_cons_succ, List.getElem_cons_zero, Act.put, List.setIfInBounds_toArray, List.set_cons_zero, List.set_cons_succ])
                have hO4 := HM.out.1.below (((Below.refl _ _).drew.trans hb4).alloc hb4.size (.cells #[.string ⟨Y.toArray⟩] 9))
                obtain ⟨u5, w5, hr5, hos5, hg5, hat5⟩ := run_append_S 34 34 Tryd.underlying34 (w4.alloc (.cells #[.string ⟨Y.toArray⟩] 9)) w.heap.size (.slice Au nu cu) (f (canonOf F.key)) (hO4.vals _ (List.mem_of_getElem? HM.out.2.1)) (some ⟨w4.heap.size, 0, none⟩) [Y] 1 (SL.one w4 Y 9) (by have := HM.out.2.2.2.2.2.1; simp only [List.length_singleton]; omega) (by have := HM.out.2.2.2.2.2.2.1.size; have := hb4.size; rw [World.size_alloc]; have h1 : w3.drew.heap.size = w3.heap.size := rfl; omega)
                obtain ⟨A9, c9, hu9, -⟩ := hos5.form
                obtain ⟨n9, hn9⟩ : ∃ m : Nat, m = (f (canonOf F.key) ++ [Y]).length := ⟨_, rfl⟩
                rw [← hn9] at hu9
                subst hu9
                clear hn9
                have hnew := hO4.put HM.out.2.1 hos5 hg5 hat5
                have hbl : Below w.heap.size w (w5.setCell ⟨g3, E.length * 2 + 1, none⟩ (.slice A9 n9 c9)) := (((HM.out.2.2.2.2.2.2.1.trans (((Below.refl _ _).drew.trans hb4).mono HM.out.2.2.2.2.2.2.1.size)).alloc (Nat.le_trans HM.out.2.2.2.2.2.2.1.size hb4.size) _).grown hg5 (by have := HM.out.2.2.2.2.2.2.1.size; have := hb4.size; rw [World.size_alloc]; have h1 : w3.drew.heap.size = w3.heap.size := rfl; omega) (fun q hq => ((hO4.vals _ (List.mem_of_getElem? HM.out.2.1)).lt q hq).1)).setCell (p := ⟨g3, E.length * 2 + 1, none⟩) (hO4.own.lt g3 rfl).1 _
                have hc14 := hO4.store HM.out.2.1 hg5
                have k14 := hc14.1
                have j14 := hc14.2
                have HT := Lib.hid (And.intro hnew (And.intro hbl hr5))
                clear hnew hbl hr5 hos5 hg5 hat5 hc14 hO4
                refine wpAnyH_ready (rs := [11]) (by kernel_rfl) (by simp) ?_
                refine AllReadyH.cons rfl (fun K hK => ?_) AllReadyH.nil
                rw [if_pos (by rfl)]
                refine Lib.wp_append_run _ (.tmp 57) (.tmp 61) 34 34 rfl _ _ rfl rfl _ _ HT.out.2.2 ?_
                refine hK.out _ _ trivial (fun _ => ?_)
                clear hK K
                (try simp only [List.getElem_toArray, List.getElem_cons_succ, List.getElem_cons_zero, Act.put, List.setIfInBounds_toArray, List.set_cons_zero, List.set_cons_succ])
                refine wpAnyH_take (i := 12) (v := ?vh312x12) rfl (by kernel_rfl) (by kernel_rfl) (by kernel_rfl) (fun _ _ _ h => h) (Or.inl ⟨by rfl, ?hh312x12⟩) trivial ?rh312x12
                case hh312x12 => (intro w hSw; (try dsimp only at hSw); go_simp; (try with_reducible rfl))
                (try simp only [List.getElem_toArray, List.getElem_cons_succ, List.getElem_cons_zero, Act.put, List.setIfInBounds_toArray, List.set_cons_zero, List.set_cons_succ])
                refine wpAnyH_take (i := 13) (v := ?vh313x13) rfl (by kernel_rfl) (by kernel_rfl) (by kernel_rfl) (fun _ _ _ h => h) (Or.inl ⟨by rfl, ?hh313x13⟩) trivial ?rh313x13
                case hh313x13 => (intro w hSw; (try dsimp only at hSw); go_simp; (try with_reducible rfl))
                (try simp only [List.getElem_toArray, List.getElem_cons_succ, List.getElem_cons_zero, Act.put, List.setIfInBounds_toArray, List.set_cons_zero, List.set_cons_succ])
                refine wpAnyH_ready (rs := [14]) (by kernel_rfl) (by simp) ?_
                refine AllReadyH.cons rfl (fun K hK => ?_) AllReadyH.nil
                go_simp
                refine hK.out _ _ trivial (fun _ => ?_)
                clear hK K
                (try simp only [List.getElem_toArray, List.getElem_cons_succ, List.getElem_cons_zero, Act.put, List.setIfInBounds_toArray, List.set_cons_zero, List.set_cons_succ])
                refine wpAnyH_done (by kernel_rfl) ?_ _
                go_wp2
                go_roundg (gk0 - 1)
                case measure => have := HK0.out; omega
                case rel => exact ⟨k + 1, by have := HK0.out; omega, by go_num, Lib.hid (HdLp.next HM.out.2.1 HT.out.1 HM.out.2.2.2.1 HM.out.2.2.2.2.1 HM.out.2.2.2.2.2.2.2 HT.out.2.1 HB1.out.2.2.2.2.2.2.1 HY.out)⟩
              · have c6 := Lib.cell?_alloc_some (.cells #[.string ⟨Y.toArray⟩] 9) c6
                go_simp
                refine hK.out _ _ trivial (fun _ => ?_)
                clear hK K
                (try simp only [List.getElem_toArray, List.getElem_cons_succ, List.getElem_cons_zero, Act.put, List.setIfInBounds_toArray, List.set_cons_zero, List.set_cons_succ])
                refine wpAnyH_ready (rs := [6]) (by kernel_rfl) (by simp) ?_
                refine AllReadyH.cons rfl (fun K hK => ?_) AllReadyH.nil
                go_simp
                refine hK.out _ _ trivial (fun _ => ?_)
                clear hK K
                (try simp only [List.getElem_toArray, List.getElem_cons_succ, List.getElem_cons_zero, Act.put, List.setIfInBounds_toArray, List.set_cons_zero, List.set_cons_succ])
                have hO4 := HM.out.1.below (((Below.refl _ _).drew.trans hb4).alloc hb4.size (.cells #[.string ⟨Y.toArray⟩] 9))
                obtain ⟨u5, w5, hr5, hos5, hg5, hat5⟩ := run_append_S 34 34 Tryd.underlying34 (w4.alloc (.cells #[.string ⟨Y.toArray⟩] 9)) w.heap.size (.slice Au nu cu) (f (canonOf F.key)) (hO4.vals _ (List.mem_of_getElem? HM.out.2.1)) (some ⟨w4.heap.size, 0, none⟩) [Y] 1 (SL.one w4 Y 9) (by have := HM.out.2.2.2.2.2.1; simp only [List.length_singleton]; omega) (by have := HM.out.2.2.2.2.2.2.1.size; have := hb4.size; rw [World.size_alloc]; have h1 : w3.drew.heap.size = w3.heap.size := rfl; omega)
                obtain ⟨A9, c9, hu9, -⟩ := hos5.form
                obtain ⟨n9, hn9⟩ : ∃ m : Nat, m = (f (canonOf F.key) ++ [Y]).length := ⟨_, rfl⟩
                rw [← hn9] at hu9
                subst hu9
                clear hn9
                have hnew := hO4.put HM.out.2.1 hos5 hg5 hat5
                have hbl : Below w.heap.size w (w5.setCell ⟨g3, E.length * 2 + 1, none⟩ (.slice A9 n9 c9)) := (((HM.out.2.2.2.2.2.2.1.trans (((Below.refl _ _).drew.trans hb4).mono HM.out.2.2.2.2.2.2.1.size)).alloc (Nat.le_trans HM.out.2.2.2.2.2.2.1.size hb4.size) _).grown hg5 (by have := HM.out.2.2.2.2.2.2.1.size; have := hb4.size; rw [World.size_alloc]; have h1 : w3.drew.heap.size = w3.heap.size := rfl; omega) (fun q hq => ((hO4.vals _ (List.mem_of_getElem? HM.out.2.1)).lt q hq).1)).setCell (p := ⟨g3, E.length * 2 + 1, none⟩) (hO4.own.lt g3 rfl).1 _
                have hc14 := hO4.store HM.out.2.1 hg5
                have k14 := hc14.1
                have j14 := hc14.2
                have HT := Lib.hid (And.intro hnew (And.intro hbl hr5))
                clear hnew hbl hr5 hos5 hg5 hat5 hc14 hO4
                refine wpAnyH_ready (rs := [11]) (by kernel_rfl) (by simp) ?_
                refine AllReadyH.cons rfl (fun K hK => ?_) AllReadyH.nil
                rw [if_pos (by rfl)]
                refine Lib.wp_append_run _ (.tmp 57) (.tmp 61) 34 34 rfl _ _ rfl rfl _ _ HT.out.2.2 ?_
                refine hK.out _ _ trivial (fun _ => ?_)
                clear hK K
                (try simp only [List.getElem_toArray, List.getElem_cons_succ, List.getElem_cons_zero, Act.put, List.setIfInBounds_toArray, List.set_cons_zero, List.set_cons_succ])
                refine wpAnyH_take (i := 12) (v := ?vh312x14) rfl (by kernel_rfl) (by kernel_rfl) (by kernel_rfl) (fun _ _ _ h => h) (Or.inl ⟨by rfl, ?hh312x14⟩) trivial ?rh312x14
                case hh312x14 => (intro w hSw; (try dsimp only at hSw); go_simp; (try with_reducible rfl))
                (try simp only [List.getElem_toArray, List.getElem_cons_succ, List.getElem_cons_zero, Act.put, List.setIfInBounds_toArray, List.set_cons_zero, List.set_cons_succ])
                refine wpAnyH_take (i := 13) (v := ?vh313x15) rfl (by kernel_rfl) (by kernel_rfl) (by kernel_rfl) (fun _ _ _ h => h) (Or.inl ⟨by rfl, ?hh313x15⟩) trivial ?rh313x15
                case hh313x15 => (intro w hSw; (try dsimp only at hSw); go_simp; (try with_reducible rfl))
                (try simp only [List.getElem_toArray, List.getElem_cons_succ, List.getElem_cons_zero, Act.put, List.setIfInBounds_toArray, List.set_cons_zero, List.set_cons_succ])
                refine wpAnyH_ready (rs := [14]) (by kernel_rfl) (by simp) ?_
                refine AllReadyH.cons rfl (fun K hK => ?_) AllReadyH.nil
                go_simp
                refine hK.out _ _ trivial (fun _ => ?_)
                clear hK K
                (try simp only [List.getElem_toArray, List.getElem_cons_succ, List.getElem_cons_zero, Act.put, List.setIfInBounds_toArray, List.set_cons_zero, List.set_cons_succ])
                refine wpAnyH_done (by kernel_rfl) ?_ _
                go_wp2
                go_roundg (gk0 - 1)
                case measure => have := HK0.out; omega
                case rel => exact ⟨k + 1, by have := HK0.out; omega, by go_num, Lib.hid (HdLp.next HM.out.2.1 HT.out.1 HM.out.2.2.2.1 HM.out.2.2.2.2.1 HM.out.2.2.2.2.2.2.2 HT.out.2.1 HB1.out.2.2.2.2.2.2.1 HY.out)⟩
    · obtain ⟨E, hO, hkeys, hEl, hfl, hb⟩ := hq.out
      rw [List.take_of_length_le (by omega)] at hO hkeys hfl
      obtain ⟨A8, c8, hu8, -⟩ := hO.own.form
      subst hu8
      have HE := Lib.hid (And.intro hO (And.intro hkeys (And.intro (show E.length ≤ Fs.length by omega) (And.intro (show ∀ q, (Fs.foldl addF (fun _ => []) q).length ≤ Fs.length from fun q => Nat.le_trans (hfl q) (by omega)) hb))))
      clear hO hkeys hEl hfl hb hq
      go_wp2
      go_ret
      exact ⟨A8, c8, E, rfl, HE.out⟩
end Go.Proofs.YtilhgjcjofobeaaDoor
