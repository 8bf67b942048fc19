/- The walks of zzFits8, of the reference's Blocks, within and Has. -/
import Derived.Test.YteiiocibldpioaaDoorSpecL
import Derived.Test.YteiiocibldpioaaDoorOpenR
namespace Go.Proofs.YteiiocibldpioaaDoor
open Go.RowKit

set_option maxRecDepth 200000 in
set_option maxHeartbeats 800000 in
theorem zzFits8_any {w : World} {A : Option Addr} {n c : Nat} {ls : List (List UInt8)} (hr : BL w A ls) (hn : n = ls.length) (hl : ∀ l ∈ ls, l.length ≤ 9223372036854775807) (hm : ls.length ≤ 9223372036854775807) :
    Calls Tryd.prog 14 #[.slice A n c] w fun e w' => e = .returned (.bool (decide (ls.length ≤ 2147483647) && allLe 2147483647 ls)) ∧ w = w' := by
  subst hn
  by_cases hbig : ls.length ≤ 2147483647
  · rw [decide_eq_true hbig, Bool.true_and]
    by_cases hne : ls = []
    · subst hne
      clear hr hl
      go_enter Tryd.func14, Tryd.ntmps14
      go_wp2
      go_loop [10] (fun i => i = .int .i64 0) (fun _ => 0)
      case atStart => rfl
      case round =>
        subst hrel
        go_wp2
        go_ret
        exact ⟨rfl, rfl⟩
    · obtain ⟨g, o, rfl, hx⟩ := hr hne
      have HX := Lib.hid (And.intro hx hl)
      clear hr hx hl
      go_enter Tryd.func14, Tryd.ntmps14
      go_wp2
      go_loop [4, 10] (fun _ i => ∃ k : Nat, k ≤ ls.length ∧ i = .int .i64 k ∧ Hid (allLe 2147483647 (ls.take k) = true)) (fun _ i => ls.length - (intOf i).toNat)
      case atStart => exact ⟨0, Nat.zero_le _, rfl, Lib.hid rfl⟩
      case round =>
        obtain ⟨k, hk, rfl, hcl⟩ := hrel
        by_cases hlt : k < ls.length
        · obtain ⟨s, hs⟩ : ∃ s, s = ls[k] := ⟨_, rfl⟩
          obtain ⟨B, cB, hcell, hcl1, hcl2, _⟩ := HX.out.1 k s (by rw [hs]; exact List.getElem?_eq_getElem hlt)
          have hsl : s.length ≤ 9223372036854775807 := by rw [hs]; exact HX.out.2 _ (List.getElem_mem hlt)
          have hsn := allLe_snoc 2147483647 ls k hlt
          have hsb := allLe_bad 2147483647 ls k hlt
          rw [← hs] at hsn hsb
          have HS := Lib.hid (And.intro hsn hsb)
          clear hs hsn hsb
          by_cases hs2 : s.length ≤ 2147483647
          · go_wp2
            go_round
            case rel => exact ⟨k + 1, by omega, by go_num, Lib.hid (by rw [HS.out.1, hcl.out, decide_eq_true hs2]; rfl)⟩
            case measure => simp [intOf]; omega
          · go_wp2
            go_ret
            exact ⟨ret_bool (HS.out.2 (by omega)).symm, rfl⟩
        · go_wp2
          go_ret
          refine ⟨ret_bool ?_, rfl⟩
          have := hcl.out
          rw [List.take_of_length_le (by omega)] at this
          exact this.symm
  · rw [decide_eq_false hbig, Bool.false_and]
    clear hr hl
    go_enter Tryd.func14, Tryd.ntmps14
    go_wp2
    go_ret
    exact ⟨rfl, rfl⟩
set_option maxRecDepth 200000 in
set_option maxHeartbeats 800000 in
theorem blocks_any {w : World} {A : Option Addr} {n c : Nat} {ls : List (List UInt8)} (hr : BL w A ls) (hn : n = ls.length) (hl : ∀ l ∈ ls, l.length ≤ 9223372036854775807) (hm : ls.length ≤ 9223372036854775807) :
    Calls Tryd.prog 15 #[.slice A n c] w fun e w' => e = .returned (.bool (allLe 16777216 ls && decide (ls.length ≤ 65536))) ∧ w = w' := by
  subst hn
  by_cases hne : ls = []
  · subst hne
    clear hr hl
    go_enter Tryd.func15, Tryd.ntmps15
    go_wp2
    go_loop [7] (fun i => i = .int .i64 0) (fun _ => 0)
    case atStart => rfl
    case round =>
      subst hrel
      go_wp2
      go_ret
      exact ⟨rfl, rfl⟩
  · obtain ⟨g, o, rfl, hx⟩ := hr hne
    have HX := Lib.hid (And.intro hx hl)
    clear hr hx hl
    go_enter Tryd.func15, Tryd.ntmps15
    go_wp2
    go_loop [4, 7] (fun _ i => ∃ k : Nat, k ≤ ls.length ∧ i = .int .i64 k ∧ Hid (allLe 16777216 (ls.take k) = true)) (fun _ i => ls.length - (intOf i).toNat)
    case atStart => exact ⟨0, Nat.zero_le _, rfl, Lib.hid rfl⟩
    case round =>
      obtain ⟨k, hk, rfl, hcl⟩ := hrel
      by_cases hlt : k < ls.length
      · obtain ⟨s, hs⟩ : ∃ s, s = ls[k] := ⟨_, rfl⟩
        obtain ⟨B, cB, hcell, hcl1, hcl2, _⟩ := HX.out.1 k s (by rw [hs]; exact List.getElem?_eq_getElem hlt)
        have hsl : s.length ≤ 9223372036854775807 := by rw [hs]; exact HX.out.2 _ (List.getElem_mem hlt)
        have hsn := allLe_snoc 16777216 ls k hlt
        have hsb := allLe_bad 16777216 ls k hlt
        rw [← hs] at hsn hsb
        have HS := Lib.hid (And.intro hsn hsb)
        clear hs hsn hsb
        by_cases hs2 : s.length ≤ 16777216
        · go_wp2
          go_round
          case rel => exact ⟨k + 1, by omega, by go_num, Lib.hid (by rw [HS.out.1, hcl.out, decide_eq_true hs2]; rfl)⟩
          case measure => simp [intOf]; omega
        · go_wp2
          go_ret
          exact ⟨ret_bool (by rw [HS.out.2 (by omega)]; rfl), rfl⟩
      · have hall := hcl.out
        rw [List.take_of_length_le (by omega)] at hall
        have HA := Lib.hid hall
        clear hall
        by_cases hs2 : ls.length ≤ 65536
        · go_wp2
          go_ret
          exact ⟨ret_bool (by first | (rw [HA.out]; simp; omega) | (simp; omega)), rfl⟩
        · go_wp2
          go_ret
          exact ⟨ret_bool (by first | (rw [HA.out]; simp; omega) | (simp; omega)), rfl⟩
/-- spec.within as a plain test. -/
def withinB (l : List UInt8) (n : Int) : Bool := l.any (fun b => (b.toNat : Int) == n)

theorem withinB_nil (n : Int) : withinB [] n = false := rfl
theorem withinB_snoc (l : List UInt8) (b : UInt8) (n : Int) : withinB (l ++ [b]) n = (withinB l n || ((b.toNat : Int) == n)) := by
  unfold withinB; simp
theorem withinB_hit (l : List UInt8) (k : Nat) (h : k < l.length) (n : Int) (e : (l[k].toNat : Int) = n) : withinB l n = true := by
  unfold withinB
  rw [List.any_eq_true]
  exact ⟨l[k], List.getElem_mem _, by simpa using e⟩

set_option maxHeartbeats 400000 in
theorem within_any (l : List UInt8) (n : Int) (_h0 : 0 ≤ n) (_h1 : n ≤ 255) (hs : l.length ≤ 9223372036854775807) (w : World) :
    Calls Tryd.prog 44 #[.string ⟨l.toArray⟩, .int .u8 n] w fun e w' => e = .returned (.bool (withinB l n)) ∧ w = w' := by
  go_enter Tryd.func44, Tryd.ntmps44
  go_wp2
  go_loop [5] (fun i => ∃ k : Nat, k ≤ l.length ∧ i = .int .i64 k ∧ withinB (l.take k) n = false) (fun i => l.length - (intOf i).toNat)
  case atStart => exact ⟨0, Nat.zero_le _, rfl, rfl⟩
  case round =>
    obtain ⟨k, hk, rfl, hno⟩ := hrel
    have HN := Lib.hid hno
    clear hno
    by_cases hlt : k < l.length
    · by_cases hc : (l[k].toNat : Int) = n
      · go_wp2
        go_ret
        exact ⟨ret_bool (withinB_hit l k hlt n hc).symm, rfl⟩
      · go_wp2
        go_round
        case rel => exact ⟨k + 1, by omega, by go_num, by rw [List.take_succ_eq_append_getElem hlt, withinB_snoc, HN.out]; simpa using hc⟩
        case measure => simp [intOf]; omega
    · go_wp2
      go_ret
      exact ⟨ret_bool (by
        have h := HN.out
        rw [List.take_of_length_le (by omega)] at h
        exact h.symm), rfl⟩

theorem has_any {w : World} {A : Option Addr} {n c : Nat} {D : List UInt8} (hr : RB w A D) (hn : n = D.length) (hD : D.length ≤ 17592186044416) :
    Calls Tryd.prog 18 #[.slice A n c, .int .u8 13] w fun e w' => e = .returned (.bool (withinB D 13)) ∧ w = w' := by
  subst hn
  have hw := within_any D 13 (by decide) (by decide) (by omega) w
  have H := Lib.hid (And.intro hr hw)
  clear hr hw
  go_enter Tryd.func18, Tryd.ntmps18
  go_wp2_with (first
    | (with_reducible refine at_toString ?_; refine wpList_toString rfl (.tmp 5) rfl A D.length c D rfl rfl H.out.1 ?_)
    | (go_at_call 44; refine H.out.2.mono ?_; rintro e w' ⟨rfl, rfl⟩))
  go_ret
  exact ⟨rfl, rfl⟩
theorem withinB_not {D : List UInt8} (h : withinB D 13 = false) : (13 : UInt8) ∉ D := by
  intro hm
  have : withinB D 13 = true := by
    unfold withinB
    rw [List.any_eq_true]
    exact ⟨13, hm, by decide⟩
  rw [h] at this
  cases this
theorem blocks_le (ds : List (List UInt8)) (h : ∀ l ∈ ds, l.length ≤ 16777216) (hm : ds.length ≤ 65536) : ds.flatten.length ≤ 1099511627776 := by
  have h1 : ∀ (l : List (List UInt8)), (∀ x ∈ l, x.length ≤ 16777216) → l.flatten.length ≤ l.length * 16777216 := by
    intro l
    induction l with
    | nil => intro _; simp
    | cons x t ih =>
      intro h
      have h1 := h x (List.mem_cons_self ..)
      have h2 := ih (fun y hy => h y (List.mem_cons_of_mem _ hy))
      rw [List.flatten_cons, List.length_append, List.length_cons]
      omega
  have h2 := h1 ds h
  have h3 : ds.length * 16777216 ≤ 65536 * 16777216 := Nat.mul_le_mul hm (Nat.le_refl _)
  omega
end Go.Proofs.YteiiocibldpioaaDoor
