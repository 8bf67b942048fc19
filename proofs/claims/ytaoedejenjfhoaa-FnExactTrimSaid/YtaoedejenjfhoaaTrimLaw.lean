/- The walk of FnExactTrim: TrimString and TrimBytes both give the reference's answer. -/
import Derived.Test.YtaoedejenjfhoaaMem
import Derived.Test.YtaoedejenjfhoaaTrim
namespace Go.Proofs.Ytaoedejenjfhoaa
open Go.RowKit

theorem trimmed_le (l : List UInt8) : (trimmed l).length ≤ l.length := by
  unfold trimmed trimR trimL
  have h1 := (List.dropWhile_suffix (l := l) isSp).length_le
  have h2 := (List.dropWhile_suffix (l := (l.dropWhile isSp).reverse) isSp).length_le
  simp only [List.length_reverse] at *
  omega

set_option maxHeartbeats 400000 in
theorem implTrimBytes (A : Option Addr) (l : List UInt8) (hl : l.length ≤ 16777216) (c : Nat) (w : World) (hr : RB w A l) :
    Calls Try.prog 12 #[.slice A l.length c] w fun e w' => RetB w' (trimmed l) e ∧ Below w.heap.size w w' := by
  have HR := Lib.hid hr
  clear hr
  have htl := trimmed_le l
  go_enter Try.func12, Try.ntmps12
  go_wp2_with (first
    | (with_reducible refine at_appendB ?_; refine wpList_append_B rfl (.tmp 4) (.tmp 5) rfl w.heap.size (.slice (some ⟨w.heap.size + 1, 0, none⟩) 0 0) [] rfl (OB.lit' (by simp) (by simp)) A l _ _ rfl rfl (HR.out.below (((Below.refl _ _).alloc (Nat.le_refl _) _).alloc (by simp) _)) (by simp; omega) (by simp; omega) l.length (by simp) l rfl ?_; intro A1 c1 w1 ha1; have H1 := Lib.hid ha1; clear ha1)
    | (go_at_call 25; refine (trimBytes_any A1 l c1 H1.out.le H1.out.le' _ H1.out.read).mono ?_; rintro e w' ⟨⟨A2, c2, rfl, hle2, hle2', hr2⟩, rfl⟩; have H2 := Lib.hid hr2; clear hr2)
    | (with_reducible refine at_appendB ?_; refine wpList_append_B rfl (.tmp 3) (.tmp 7) rfl w.heap.size (.slice (some ⟨w.heap.size, 0, none⟩) 0 0) [] rfl ?ho A2 (trimmed l) _ _ rfl rfl H2.out (by simp; omega) ?hb (trimmed l).length (by simp) (trimmed l) rfl ?_; rotate_right; intro A3 c3 w3 ha3; have H3 := Lib.hid ha3; clear ha3))
  case ho => exact ((OB.lit' rfl (Nat.le_refl _)).alloc _).kept H1.out.grown (.inr (by simp [Value.ownBlock]))
  case hb => have := H1.out.grown.size; simp at this; omega
  have hb1 : Below w.heap.size w w1 := (((Below.refl _ _).alloc (Nat.le_refl _) _).alloc (by simp) _).grown H1.out.grown (by simp; omega) (by simp [Value.ownBlock])
  have hb3 : Below w.heap.size w w3 := hb1.grown H3.out.grown hb1.size (by simp [Value.ownBlock])
  go_ret
  exact ⟨RetB.mk rfl H3.out.le H3.out.le' H3.out.read, hb3⟩

set_option maxHeartbeats 400000 in
theorem lawTrim (l : List UInt8) (hl : l.length ≤ 9223372036854775807) (w : World) :
    Calls Try.prog 4 #[.string ⟨l.toArray⟩] w fun e w' => e = .returned (.bool true) ∧ Below w.heap.size w w' := by
  by_cases h24 : l.length ≤ 16777216
  · go_enter Try.func4, Try.ntmps4
    go_wp2_with (first
      | (go_at_call 10; refine (specTrim_any l hl _).mono ?_; rintro e w1 ⟨rfl, rfl⟩)
      | (go_at_call 24; refine (trimString_any l hl _).mono ?_; rintro e w1 ⟨rfl, rfl⟩)
      | (with_reducible refine at_toBytes ?_; refine wpList_toBytes rfl _ rfl l rfl hl ?_; intro c w1 hf0; have hf := Lib.hid hf0; clear hf0)
      | (go_at_call 12; refine (implTrimBytes _ l h24 c w1 (RB.of_row (Nat.le_refl _) hf.out.row)).mono ?_; rintro e w2 ⟨⟨A2, c2, rfl, hle2, hle2', hr2⟩, hb2⟩; have H2 := Lib.hid hr2; have HB2 := Lib.hid hb2; clear hr2 hb2)
      | (with_reducible refine at_toString ?_; refine wpList_toString rfl _ rfl A2 _ c2 (trimmed l) rfl rfl H2.out ?_)
      | go_in)
    go_ret
    exact ⟨rfl, hf.out.below.trans (HB2.out.mono hf.out.below.size)⟩
  · go_enter Try.func4, Try.ntmps4
    go_wp2_with fail
    all_goals
      go_ret
      exact ⟨rfl, Below.refl _ _⟩
end Go.Proofs.Ytaoedejenjfhoaa
