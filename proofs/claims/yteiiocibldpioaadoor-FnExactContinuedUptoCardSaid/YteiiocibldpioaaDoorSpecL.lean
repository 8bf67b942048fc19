/- The walks of the bounds and of the reference's DotText, of lists of strings. -/
import Derived.Test.YteiiocibldpioaaDoorOwn
import Derived.Lib.AppendStr
namespace Go.Proofs.YteiiocibldpioaaDoor
open Go.RowKit

/-- Every text is at most so long. -/
def allLe (N : Nat) (ls : List (List UInt8)) : Bool := ls.all fun l => decide (l.length ≤ N)
theorem allLe_snoc (N : Nat) (ls : List (List UInt8)) (k : Nat) (h : k < ls.length) : allLe N (ls.take (k + 1)) = (allLe N (ls.take k) && decide (ls[k].length ≤ N)) := by
  unfold allLe
  rw [List.take_succ_eq_append_getElem h, List.all_append]
  simp only [List.all_cons, List.all_nil, Bool.and_true]
theorem allLe_bad (N : Nat) (ls : List (List UInt8)) (k : Nat) (h : k < ls.length) (hc : N < ls[k].length) : allLe N ls = false := by
  rw [Bool.eq_false_iff]
  intro h1
  rw [allLe, List.all_eq_true] at h1
  have := h1 ls[k] (List.getElem_mem h)
  simp at this
  omega
theorem allLe_iff {N : Nat} {ls : List (List UInt8)} : allLe N ls = true ↔ ∀ l ∈ ls, l.length ≤ N := by simp [allLe]
set_option maxRecDepth 200000 in
set_option maxHeartbeats 800000 in
theorem zzFits3_any {w : World} {A : Option Addr} {n c : Nat} {ls : List (List UInt8)} (hr : SL w A ls) (hn : n = ls.length) (hl : ∀ l ∈ ls, l.length ≤ 9223372036854775807) (hm : ls.length ≤ 9223372036854775807) :
    Calls Tryd.prog 21 #[.slice A n c] w fun e w' => e = .returned (.bool (decide (ls.length ≤ 2147483647) && allLe 2147483647 ls)) ∧ w = w' := by
  subst hn
  by_cases hbig : ls.length ≤ 2147483647
  · rw [decide_eq_true hbig, Bool.true_and]
    by_cases hne : ls = []
    · subst hne
      clear hr hl
      go_enter Tryd.func21, Tryd.ntmps21
      go_wp2
      go_loop [10] (fun i => i = .int .i64 0) (fun _ => 0)
      case atStart => rfl
      case round =>
        subst hrel
        go_wp2
        go_ret
        exact ⟨rfl, rfl⟩
    · obtain ⟨g, o, rfl, hx⟩ := hr hne
      have HX := Lib.hid (And.intro hx hl)
      clear hr hx hl
      go_enter Tryd.func21, Tryd.ntmps21
      go_wp2
      go_loop [4, 10] (fun _ i => ∃ k : Nat, k ≤ ls.length ∧ i = .int .i64 k ∧ Hid (allLe 2147483647 (ls.take k) = true)) (fun _ i => ls.length - (intOf i).toNat)
      case atStart => exact ⟨0, Nat.zero_le _, rfl, Lib.hid rfl⟩
      case round =>
        obtain ⟨k, hk, rfl, hcl⟩ := hrel
        by_cases hlt : k < ls.length
        · obtain ⟨s, hs⟩ : ∃ s, s = ls[k] := ⟨_, rfl⟩
          have hcell : w.cell? ⟨g, o + k, none⟩ = some (.string ⟨s.toArray⟩) := by rw [hs]; exact HX.out.1 k ls[k] (List.getElem?_eq_getElem hlt)
          have hsl : s.length ≤ 9223372036854775807 := by rw [hs]; exact HX.out.2 _ (List.getElem_mem hlt)
          have hsn := allLe_snoc 2147483647 ls k hlt
          have hsb := allLe_bad 2147483647 ls k hlt
          rw [← hs] at hsn hsb
          have HS := Lib.hid (And.intro hsn hsb)
          clear hs hsn hsb
          by_cases hs2 : s.length ≤ 2147483647
          · go_wp2
            go_round
            case rel => exact ⟨k + 1, by omega, by go_num, Lib.hid (by rw [HS.out.1, hcl.out, decide_eq_true hs2]; rfl)⟩
            case measure => simp [intOf]; omega
          · go_wp2
            go_ret
            exact ⟨ret_bool (HS.out.2 (by omega)).symm, rfl⟩
        · go_wp2
          go_ret
          refine ⟨ret_bool ?_, rfl⟩
          have := hcl.out
          rw [List.take_of_length_le (by omega)] at this
          exact this.symm
  · rw [decide_eq_false hbig, Bool.false_and]
    clear hr hl
    go_enter Tryd.func21, Tryd.ntmps21
    go_wp2
    go_ret
    exact ⟨rfl, rfl⟩
set_option maxRecDepth 200000 in
set_option maxHeartbeats 800000 in
theorem brief_any {w : World} {A : Option Addr} {n c : Nat} {ls : List (List UInt8)} (hr : SL w A ls) (hn : n = ls.length) (hl : ∀ l ∈ ls, l.length ≤ 9223372036854775807) (hm : ls.length ≤ 9223372036854775807) :
    Calls Tryd.prog 22 #[.slice A n c] w fun e w' => e = .returned (.bool (allLe 16777216 ls && decide (ls.length ≤ 65536))) ∧ w = w' := by
  subst hn
  by_cases hne : ls = []
  · subst hne
    clear hr hl
    go_enter Tryd.func22, Tryd.ntmps22
    go_wp2
    go_loop [7] (fun i => i = .int .i64 0) (fun _ => 0)
    case atStart => rfl
    case round =>
      subst hrel
      go_wp2
      go_ret
      exact ⟨rfl, rfl⟩
  · obtain ⟨g, o, rfl, hx⟩ := hr hne
    have HX := Lib.hid (And.intro hx hl)
    clear hr hx hl
    go_enter Tryd.func22, Tryd.ntmps22
    go_wp2
    go_loop [4, 7] (fun _ i => ∃ k : Nat, k ≤ ls.length ∧ i = .int .i64 k ∧ Hid (allLe 16777216 (ls.take k) = true)) (fun _ i => ls.length - (intOf i).toNat)
    case atStart => exact ⟨0, Nat.zero_le _, rfl, Lib.hid rfl⟩
    case round =>
      obtain ⟨k, hk, rfl, hcl⟩ := hrel
      by_cases hlt : k < ls.length
      · obtain ⟨s, hs⟩ : ∃ s, s = ls[k] := ⟨_, rfl⟩
        have hcell : w.cell? ⟨g, o + k, none⟩ = some (.string ⟨s.toArray⟩) := by rw [hs]; exact HX.out.1 k ls[k] (List.getElem?_eq_getElem hlt)
        have hsl : s.length ≤ 9223372036854775807 := by rw [hs]; exact HX.out.2 _ (List.getElem_mem hlt)
        have hsn := allLe_snoc 16777216 ls k hlt
        have hsb := allLe_bad 16777216 ls k hlt
        rw [← hs] at hsn hsb
        have HS := Lib.hid (And.intro hsn hsb)
        clear hs hsn hsb
        by_cases hs2 : s.length ≤ 16777216
        · go_wp2
          go_round
          case rel => exact ⟨k + 1, by omega, by go_num, Lib.hid (by rw [HS.out.1, hcl.out, decide_eq_true hs2]; rfl)⟩
          case measure => simp [intOf]; omega
        · go_wp2
          go_ret
          exact ⟨ret_bool (by rw [HS.out.2 (by omega)]; rfl), rfl⟩
      · have hall := hcl.out
        rw [List.take_of_length_le (by omega)] at hall
        have HA := Lib.hid hall
        clear hall
        by_cases hs2 : ls.length ≤ 65536
        · go_wp2
          go_ret
          exact ⟨ret_bool (by first | (rw [HA.out]; simp; omega) | (simp; omega)), rfl⟩
        · go_wp2
          go_ret
          exact ⟨ret_bool (by first | (rw [HA.out]; simp; omega) | (simp; omega)), rfl⟩
end Go.Proofs.YteiiocibldpioaaDoor
