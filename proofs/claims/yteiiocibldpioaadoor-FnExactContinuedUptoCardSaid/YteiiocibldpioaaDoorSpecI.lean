/- The walk of the bounds of lists of long lines. -/
import Derived.Test.YteiiocibldpioaaDoorSpecH
import Derived.Deep.LoopGhost
namespace Go.Proofs.YteiiocibldpioaaDoor
open Go.RowKit

set_option maxRecDepth 200000 in
set_option maxHeartbeats 1600000 in
theorem zzFits1_any {w : World} {A : Option Addr} {n c : Nat} {Ls : List LongR} (hr : LL w A Ls) (hn : n = Ls.length) (hl : ∀ L ∈ Ls, L.len) (hm : Ls.length ≤ 9223372036854775807) :
    Calls Tryd.prog 32 #[.slice A n c] w fun e w' => e = .returned (.bool (decide (Ls.length ≤ 2147483647) && Ls.all fits2)) ∧ Below w.heap.size w w' := by
  subst hn
  by_cases hbig : Ls.length ≤ 2147483647
  · rw [decide_eq_true hbig, Bool.true_and]
    by_cases hne : Ls = []
    · subst hne
      clear hr hl
      go_enter Tryd.func32, Tryd.ntmps32
      go_wp2
      go_loop [10] (fun i => i = .int .i64 0) (fun _ => 0)
      case atStart => rfl
      case round =>
        subst hrel
        go_wp2
        go_ret
        exact ⟨rfl, Below.refl _ _⟩
    · obtain ⟨g, o, rfl, hx⟩ := hr hne
      have HX := Lib.hid (And.intro hx hl)
      clear hr hx hl
      go_enter Tryd.func32, Tryd.ntmps32
      go_wp2
      go_loopg [4, 10] Ls.length (fun gk _ i wr => ∃ k : Nat, k + gk = Ls.length ∧ i = .int .i64 k ∧ Hid ((Ls.take k).all fits2 = true) ∧ Below w.heap.size w wr)
      case atStart => exact ⟨0, by omega, rfl, Lib.hid rfl, Below.refl _ _⟩
      case round =>
        obtain ⟨k, hk, rfl, hcl, hb⟩ := hrel
        by_cases hlt : k < Ls.length
        · obtain ⟨L, hL⟩ : ∃ L, L = Ls[k] := ⟨_, rfl⟩
          have hat := (HX.out.1 k L (by rw [hL]; exact List.getElem?_eq_getElem hlt)).below hb
          have hlen := HX.out.2 L (by rw [hL]; exact List.getElem_mem hlt)
          have hsn := all_snoc fits2 Ls k hlt
          have hbd := all_bad fits2 Ls k hlt
          rw [← hL] at hsn hbd
          obtain ⟨B, c', c0, c1, c2, hs⟩ := hat
          have hz := fun w2 (h : Below wr.heap.size wr w2) => zzFits2_any L hlen B c' w2 (hs.below h)
          obtain ⟨f, hf⟩ : ∃ f, f = fits2 L := ⟨_, rfl⟩
          rw [← hf] at hz hsn hbd
          have HS := Lib.hid (And.intro hsn (And.intro hbd (And.intro hz hb)))
          clear hL hsn hbd hz hb hs hf hlen
          cases f
          · go_wp2_with (go_at_call 54; refine (HS.out.2.2.1 _ ((Below.refl _ wr).alloc (Nat.le_refl _) _)).mono ?_; rintro e w3 ⟨rfl, hb3⟩; have H3 := Lib.hid hb3; clear hb3)
            go_ret
            exact ⟨ret_bool (HS.out.2.1 (by first | rfl | trivial)).symm, (HS.out.2.2.2.alloc HS.out.2.2.2.size _).trans (H3.out.mono (by simp; have := HS.out.2.2.2.size; omega))⟩
          · go_wp2_with (go_at_call 54; refine (HS.out.2.2.1 _ ((Below.refl _ wr).alloc (Nat.le_refl _) _)).mono ?_; rintro e w3 ⟨rfl, hb3⟩; have H3 := Lib.hid hb3; clear hb3)
            go_roundg (gk - 1)
            case measure => omega
            case rel => exact ⟨k + 1, by omega, by go_num, Lib.hid (by rw [HS.out.1, hcl.out]; rfl), (HS.out.2.2.2.alloc HS.out.2.2.2.size _).trans (H3.out.mono (by simp; have := HS.out.2.2.2.size; omega))⟩
        · have hall := hcl.out
          rw [List.take_of_length_le (by omega)] at hall
          have HA := Lib.hid (And.intro hall hb)
          clear hall hb
          go_wp2
          go_ret
          exact ⟨ret_bool HA.out.1.symm, HA.out.2⟩
  · rw [decide_eq_false hbig, Bool.false_and]
    clear hr hl
    go_enter Tryd.func32, Tryd.ntmps32
    go_wp2
    go_ret
    exact ⟨rfl, Below.refl _ _⟩
end Go.Proofs.YteiiocibldpioaaDoor
