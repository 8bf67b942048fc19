/- The reference's list of keys: where a key stands. -/
import Derived.Test.YtaoedejenjfhoaaRunL
import Derived.Deep.LoopGhost
import Derived.Deep.RegionHeld3
import Derived.Deep.DeepCutAuto
namespace Go.Proofs.Ytaoedejenjfhoaa
open Go.RowKit Go.Maps

/-- The cells of a list of keys, each with its values. -/
def cellsE (E : List (List UInt8 × Value)) : List Value := E.flatMap fun e => [.string ⟨e.1.toArray⟩, e.2]
theorem cellsE_length (E : List (List UInt8 × Value)) : (cellsE E).length = E.length * 2 := by
  induction E with
  | nil => rfl
  | cons e t ih => simp [cellsE] at ih ⊢; omega
theorem cellsE_append (E F : List (List UInt8 × Value)) : cellsE (E ++ F) = cellsE E ++ cellsE F := by simp [cellsE]
theorem cellsE_get0 (E : List (List UInt8 × Value)) (i : Nat) (e : List UInt8 × Value) (h : E[i]? = some e) : (cellsE E)[i * 2]? = some (.string ⟨e.1.toArray⟩) ∧ (cellsE E)[i * 2 + 1]? = some e.2 := by
  induction E generalizing i with
  | nil => simp at h
  | cons a t ih =>
    have hc : cellsE (a :: t) = .string ⟨a.1.toArray⟩ :: a.2 :: cellsE t := by simp [cellsE]
    rcases i with _ | i
    · simp at h; subst h; rw [hc]; exact ⟨rfl, rfl⟩
    · simp at h
      obtain ⟨h1, h2⟩ := ih i h
      rw [hc, show (i + 1) * 2 = i * 2 + 1 + 1 by omega]
      exact ⟨by simpa using h1, by simpa using h2⟩
/-- Where a key stands, or -1. -/
def keyIdx (E : List (List UInt8 × Value)) (c : List UInt8) : Int := match E.findIdx? (fun e => e.1 == c) with | some i => i | none => -1
theorem keyIdx_at {E : List (List UInt8 × Value)} {c : List UInt8} {k : Nat} (h : ∀ j e, j < k → E[j]? = some e → (e.1 == c) = false) {e : List UInt8 × Value} (hk : E[k]? = some e) (he : (e.1 == c) = true) : keyIdx E c = k := by
  have : E.findIdx? (fun e => e.1 == c) = some k := by
    rw [List.findIdx?_eq_some_iff_getElem]
    have hlt : k < E.length := by
      rcases Nat.lt_or_ge k E.length with h' | h'
      · exact h'
      · rw [List.getElem?_eq_none h'] at hk; cases hk
    rw [List.getElem?_eq_getElem hlt] at hk
    injection hk with hk
    refine ⟨hlt, by rw [hk]; exact he, fun j hj => ?_⟩
    have := h j _ hj (List.getElem?_eq_getElem (by omega))
    simp [this]
  unfold keyIdx
  rw [this]
theorem keyIdx_no {E : List (List UInt8 × Value)} {c : List UInt8} {k : Nat} (h : ∀ j e, j < k → E[j]? = some e → (e.1 == c) = false) (hk : E.length ≤ k) : keyIdx E c = -1 := by
  have : E.findIdx? (fun e => e.1 == c) = none := by
    rw [List.findIdx?_eq_none_iff]
    intro e he
    obtain ⟨j, hj, rfl⟩ := List.mem_iff_getElem.1 he
    exact h j _ (by omega) (List.getElem?_eq_getElem hj)
  unfold keyIdx
  rw [this]
/-- A slice's address under which keys with their values lie. -/
def KR (w : World) (A : Option Addr) (E : List (List UInt8 × Value)) : Prop :=
  E ≠ [] → ∃ g, A = some ⟨g, 0, none⟩ ∧ ∀ i e, E[i]? = some e → w.cell? ⟨g, i * 2, none⟩ = some (.string ⟨e.1.toArray⟩) ∧ w.cell? ⟨g, i * 2 + 1, none⟩ = some e.2
def hdrNone (E : List (List UInt8 × Value)) (c : List UInt8) (k : Nat) : Prop := ∀ j e, j < k → E[j]? = some e → (e.1 == c) = false
theorem hdrNone_succ {E : List (List UInt8 × Value)} {c : List UInt8} {k : Nat} (h : hdrNone E c k) {e : List UInt8 × Value} (hk : E[k]? = some e) (he : (e.1 == c) = false) : hdrNone E c (k + 1) := by
  intro j x hj hx
  rcases Nat.lt_or_eq_of_le (Nat.le_of_lt_succ hj) with h1 | h1
  · exact h j x h1 hx
  · subst h1; rw [hk] at hx; injection hx with hx; subst hx; exact he
set_option maxRecDepth 200000 in
set_option maxHeartbeats 1000000 in
theorem find_any {w : World} {B n c : Nat} {A : Option Addr} {E : List (List UInt8 × Value)} (hc : w.cell? ⟨B, 0, none⟩ = some (.slice A n c)) (hn : n = E.length) (hr : KR w A E) (hv : ∀ e ∈ E, ∃ A n c, e.2 = .slice A n c) (hm : E.length ≤ 3000000000) (key : List UInt8) (hk : key.length ≤ 9223372036854775807) :
    Calls Try.prog 35 #[.string ⟨key.toArray⟩, .pointer (some ⟨B, 0, none⟩)] w fun e w' => e = .returned (.int .i64 (keyIdx E (canonOf key))) ∧ Below w.heap.size w w' := by
  subst hn
  have HC := Lib.hid (fun W => specCanon_any key hk W)
  have HR := Lib.hid hr
  have HF := Lib.hid hv
  clear hr hk hv
  go_enter Try.func35, Try.ntmps35
  go_wp2
  clear hc
  go_loopg [4, 5, 8] (E.length) (fun gk _ _ i wr => ∃ k : Nat, k + gk = E.length ∧ i = .int .i64 k ∧ Hid (hdrNone E (canonOf key) k) ∧ Hid (Below w.heap.size w wr))
  case atStart => exact ⟨0, by omega, rfl, Lib.hid (fun j e h => by omega), Lib.hid (Below.refl _ _)⟩
  case round =>
    obtain ⟨k, hk, rfl, hno, hb⟩ := hrel
    by_cases hlt : k < E.length
    · obtain ⟨e, he⟩ : ∃ e, E[k]? = some e := ⟨_, List.getElem?_eq_getElem hlt⟩
      obtain ⟨g, rfl, hx⟩ := HR.out (by rintro rfl; simp at hlt)
      obtain ⟨d0, d1⟩ := hx k e he
      have c0 := (hb.out.cell (p := ⟨g, k * 2, none⟩) (World.block_lt_of_cell? _ _ d0)).trans d0
      have c1 := (hb.out.cell (p := ⟨g, k * 2 + 1, none⟩) (World.block_lt_of_cell? _ _ d1)).trans d1
      have HE := Lib.hid he
      obtain ⟨va, vn, vc, hev⟩ := HF.out e (List.mem_of_getElem? he)
      obtain ⟨ek, ev⟩ := e
      simp only at hev
      subst hev
      clear d0 d1 hx he
      have c0 : wr.cell? ⟨g, k * 2, none⟩ = some (.string ⟨ek.toArray⟩) := c0
      have c1 : wr.cell? ⟨g, k * 2 + 1, none⟩ = some (.slice va vn vc) := c1
      have hb1 : Below w.heap.size w (wr.alloc (.cells #[.string ⟨ek.toArray⟩, .slice va vn vc] 45)) := hb.out.alloc hb.out.size _
      have HB1 := Lib.hid hb1
      clear hb1
      go_wp2_with (fail)
      have e0 : (wr.alloc (.cells #[.string ⟨ek.toArray⟩, .slice va vn vc] 45)).cell? ⟨wr.heap.size, 0, none⟩ = some (.string ⟨ek.toArray⟩) := by simp
      have hlt1 : wr.heap.size < (wr.alloc (.cells #[.string ⟨ek.toArray⟩, .slice va vn vc] 45)).heap.size := by simp
      have HL := Lib.hid hlt1
      clear hlt1 c0 c1
      generalize wr.alloc (.cells #[.string ⟨ek.toArray⟩, .slice va vn vc] 45) = W1 at e0 HL HB1 ⊢
      generalize wr.heap.size = gb at e0 HL ⊢
      go_region_held3 (fun wx => wx.cell? ⟨gb, 0, none⟩ = some (.string ⟨ek.toArray⟩))
        (first | go_keep | ((rw [World.cell?_of_block (w := W1.drew) (a := ⟨gb, 0, none⟩) (hb2.block gb HL.out)]; exact e0)))
        (first | (go_at_call 16; refine (HC.out _).mono ?_; rintro e w2 ⟨rfl, hb2⟩))
      have HB2 := Lib.hid (HB1.out.drew.trans (hb2.mono HB1.out.size))
      clear hb2 e0
      rcases hq : (ek == canonOf key) with _ | _
      · have HN := Lib.hid (hdrNone_succ hno.out HE.out hq)
        clear hq
        go_wp2
        go_roundg (gk - 1)
        case measure => omega
        case rel => exact ⟨k + 1, by omega, by go_num, HN, HB2⟩
      · have HN := Lib.hid (keyIdx_at hno.out HE.out hq)
        clear hq
        go_wp2
        go_ret
        rw [HN.out]
        exact ⟨rfl, HB2.out⟩
    · go_wp2
      go_ret
      rw [keyIdx_no hno.out (by omega)]
      exact ⟨rfl, hb.out⟩
end Go.Proofs.Ytaoedejenjfhoaa
