/- Slices of strings that are read, and the walk of the reference's Dotless. -/
import Derived.Test.YtfnkkjehkegpgaaDoorDots
import Derived.Test.YtfnkkjehkegpgaaDoorRows
import Derived.Outline
namespace Go.Proofs.YtfnkkjehkegpgaaDoor
open Go.RowKit

/-- A slice's address under which the strings ls lie (of an empty slice nothing is said). -/
def SL (w : World) (A : Option Addr) (ls : List (List UInt8)) : Prop :=
  ls ≠ [] → ∃ g o, A = some ⟨g, o, none⟩ ∧ ∀ i s, ls[i]? = some s → w.cell? ⟨g, o + i, none⟩ = some (.string ⟨s.toArray⟩)
theorem SL.nil (w : World) (A : Option Addr) : SL w A [] := fun h => absurd rfl h
theorem SL.lt {w : World} {A : Option Addr} {ls : List (List UInt8)} (h : SL w A ls) : ∀ g o, A = some ⟨g, o, none⟩ → ls ≠ [] → g < w.heap.size := by
  intro g o e hne
  obtain ⟨g', o', he, hx⟩ := h hne
  rw [e] at he; injection he with he; injection he with h1 h2; subst h1; subst h2
  rcases ls with _ | ⟨s, t⟩
  · exact absurd rfl hne
  · exact World.block_lt_of_cell? _ _ (hx 0 s rfl)
theorem SL.below {w w' : World} {A : Option Addr} {ls : List (List UInt8)} (h : SL w A ls) (hb : Below w.heap.size w w') : SL w' A ls := by
  intro hne
  obtain ⟨g, o, he, hx⟩ := h hne
  have hlt := h.lt g o he hne
  exact ⟨g, o, he, fun i s hs => (hb.cell (p := ⟨g, o + i, none⟩) hlt).trans (hx i s hs)⟩
theorem SL.one (w : World) (s : List UInt8) (t : TypeId) : SL (w.alloc (.cells #[.string ⟨s.toArray⟩] t)) (some ⟨w.heap.size, 0, none⟩) [s] := by
  intro _
  refine ⟨_, _, rfl, fun i u hu => ?_⟩
  rcases i with _ | i
  · simp at hu; subst hu; simp
  · simp at hu
/-- No CR and no LF. -/
def cleanB (l : List UInt8) : Bool := l.all fun c => (c != 13) && (c != 10)
theorem cleanB_iff {l : List UInt8} : cleanB l = true ↔ Clean l := by
  simp [cleanB, Clean]
def cleansB (ls : List (List UInt8)) : Bool := ls.all cleanB
theorem cleansB_iff {ls : List (List UInt8)} : cleansB ls = true ↔ ∀ l ∈ ls, Clean l := by
  simp only [cleansB, List.all_eq_true, cleanB_iff]
theorem cleanB_snoc (l : List UInt8) (k : Nat) (h : k < l.length) : cleanB (l.take (k + 1)) = (cleanB (l.take k) && ((l[k] != 13) && (l[k] != 10))) := by
  unfold cleanB
  rw [List.take_succ_eq_append_getElem h, List.all_append]
  simp only [List.all_cons, List.all_nil, Bool.and_true]
theorem cleanB_bad (l : List UInt8) (k : Nat) (h : k < l.length) (hc : l[k] = 13 ∨ l[k] = 10) : cleanB l = false := by
  rw [Bool.eq_false_iff]
  intro h1
  have := cleanB_iff.1 h1 l[k] (List.getElem_mem h)
  rcases hc with e | e
  · exact this.1 e
  · exact this.2 e
theorem cleansB_snoc (ls : List (List UInt8)) (k : Nat) (h : k < ls.length) : cleansB (ls.take (k + 1)) = (cleansB (ls.take k) && cleanB ls[k]) := by
  unfold cleansB
  rw [List.take_succ_eq_append_getElem h, List.all_append]
  simp only [List.all_cons, List.all_nil, Bool.and_true]
theorem cleansB_bad (ls : List (List UInt8)) (k : Nat) (h : k < ls.length) (hc : cleanB ls[k] = false) : cleansB ls = false := by
  rw [Bool.eq_false_iff]
  intro h1
  rw [cleansB, List.all_eq_true] at h1
  rw [h1 ls[k] (List.getElem_mem h)] at hc
  cases hc
set_option maxHeartbeats 800000 in
theorem dotless_any {w : World} {A : Option Addr} {n c : Nat} {ls : List (List UInt8)} (hr : SL w A ls) (hn : n = ls.length) (hl : ∀ l ∈ ls, l.length ≤ 9223372036854775807) (hm : ls.length ≤ 9223372036854775807) :
    Calls Tryd.prog 17 #[.slice A n c] w fun e w' => e = .returned (.bool (cleansB ls)) ∧ w = w' := by
  subst hn
  by_cases hne : ls = []
  · subst hne
    clear hr hl
    go_enter Tryd.func17, Tryd.ntmps17
    go_wp2
    go_loop [8] (fun i => i = .int .i64 0) (fun _ => 0)
    case atStart => rfl
    case round =>
      subst hrel
      go_wp2
      go_ret
      exact ⟨rfl, rfl⟩
  · obtain ⟨g, o, rfl, hx⟩ := hr hne
    have HX := Lib.hid (And.intro hx hl)
    clear hr hx hl
    go_enter Tryd.func17, Tryd.ntmps17
    go_wp2
    go_loop [4, 5, 8] (fun _ _ i => ∃ k : Nat, k ≤ ls.length ∧ i = .int .i64 k ∧ Hid (cleansB (ls.take k) = true)) (fun _ _ i => ls.length - (intOf i).toNat)
    case atStart => exact ⟨0, Nat.zero_le _, rfl, Lib.hid rfl⟩
    case round =>
      obtain ⟨k, hk, rfl, hcl⟩ := hrel
      by_cases hlt : k < ls.length
      · obtain ⟨s, hs⟩ : ∃ s, s = ls[k] := ⟨_, rfl⟩
        have hcell : w.cell? ⟨g, o + k, none⟩ = some (.string ⟨s.toArray⟩) := by rw [hs]; exact HX.out.1 k ls[k] (List.getElem?_eq_getElem hlt)
        have hsl : s.length ≤ 9223372036854775807 := by rw [hs]; exact HX.out.2 _ (List.getElem_mem hlt)
        have HS := Lib.hid hs
        clear hs
        go_wp2
        go_loop [5] (fun i => ∃ j : Nat, j ≤ s.length ∧ i = .int .i64 j ∧ Hid (cleanB (s.take j) = true)) (fun i => s.length - (intOf i).toNat)
        case atStart => exact ⟨0, Nat.zero_le _, rfl, Lib.hid rfl⟩
        case round =>
          obtain ⟨j, hj, rfl, hcj⟩ := hrel
          by_cases hjl : j < s.length
          · by_cases hbad : s[j] = 13 ∨ s[j] = 10
            · have hbd := Lib.hid (cleansB_bad ls k hlt (HS.out ▸ cleanB_bad s j hjl hbad))
              rcases hbad with h13 | h10
              · have e13 : ((s[j].toNat : Int) == 13) = true := by rw [h13]; rfl
                clear h13
                go_wp2
                go_ret
                exact ⟨ret_bool hbd.out.symm, rfl⟩
              · have e13 : ((s[j].toNat : Int) == 13) = false := by rw [h10]; rfl
                have e10 : ((s[j].toNat : Int) == 10) = true := by rw [h10]; rfl
                clear h10
                go_wp2
                go_ret
                exact ⟨ret_bool hbd.out.symm, rfl⟩
            · have e13 : ((s[j].toNat : Int) == 13) = false := by
                rw [beq_eq_false_iff_ne]; exact fun e => hbad (.inl ((byte_eq_iff s[j] 13).1 e))
              have e10 : ((s[j].toNat : Int) == 10) = false := by
                rw [beq_eq_false_iff_ne]; exact fun e => hbad (.inr ((byte_eq_iff s[j] 10).1 e))
              have hnx : cleanB (s.take (j + 1)) = true := by
                rw [cleanB_snoc s j hjl, hcj.out]
                simp only [Bool.true_and, Bool.and_eq_true, bne_iff_ne]
                exact ⟨fun e => hbad (.inl e), fun e => hbad (.inr e)⟩
              have HN := Lib.hid hnx
              clear hnx hbad
              go_wp2
              go_round
              case rel => exact ⟨j + 1, by omega, by go_num, HN⟩
              case measure => simp [intOf]; omega
          · have hnx : cleansB (ls.take (k + 1)) = true := by
              have := hcj.out
              rw [List.take_of_length_le (by omega)] at this
              rw [cleansB_snoc ls k hlt, hcl.out, ← HS.out, this]
              rfl
            have HN := Lib.hid hnx
            clear hnx
            go_wp2
            go_round
            case rel => exact ⟨k + 1, by omega, by go_num, HN⟩
            case measure => simp [intOf]; omega
      · go_wp2
        go_ret
        refine ⟨ret_bool ?_, rfl⟩
        have := hcl.out
        rw [List.take_of_length_le (by omega)] at this
        exact this.symm
end Go.Proofs.YtfnkkjehkegpgaaDoor
