/- The contracts of TrimString and spec.Trim: both leave out spaces, tabs, CR and LF at both ends. -/
import Derived.Test.YtaoedejenjfhoaaBytes
namespace Go.Proofs.Ytaoedejenjfhoaa
open Go.RowKit

def spaces : List UInt8 := [32, 9, 13, 10]
def isSp (b : UInt8) : Bool := withinB spaces b.toNat
def trimL (l : List UInt8) : List UInt8 := l.dropWhile isSp
def trimR (l : List UInt8) : List UInt8 := (l.reverse.dropWhile isSp).reverse
def trimmed (l : List UInt8) : List UInt8 := trimR (trimL l)
theorem trimL_cons_yes {b : UInt8} {t : List UInt8} (h : isSp b = true) : trimL (b :: t) = trimL t := by simp [trimL, h]
theorem trimL_cons_no {b : UInt8} {t : List UInt8} (h : ¬ isSp b = true) : trimL (b :: t) = b :: t := by simp [trimL, h]
theorem trimR_snoc_yes {b : UInt8} {t : List UInt8} (h : isSp b = true) : trimR (t ++ [b]) = trimR t := by simp [trimR, h]
theorem trimR_snoc_no {b : UInt8} {t : List UInt8} (h : ¬ isSp b = true) : trimR (t ++ [b]) = t ++ [b] := by simp [trimR, h]
theorem snoc_last (t : List UInt8) (b : UInt8) : (t ++ [b])[t.length]? = some b := by simp

theorem isSpace_yes (b : UInt8) (h : isSp b = true) (w : World) :
    Calls Try.prog 39 #[.int .u8 b.toNat] w fun e w' => e = .returned (.bool true) ∧ w = w' := by
  rw [← h]; exact isSpace_any _ (by omega) (byte_le b) w
theorem isSpace_no (b : UInt8) (h : ¬ isSp b = true) (w : World) :
    Calls Try.prog 39 #[.int .u8 b.toNat] w fun e w' => e = .returned (.bool false) ∧ w = w' := by
  rw [← (Bool.not_eq_true _).mp h]; exact isSpace_any _ (by omega) (byte_le b) w
theorem within_yes (b : UInt8) (h : isSp b = true) (w : World) :
    Calls Try.prog 23 #[.string ⟨spaces.toArray⟩, .int .u8 b.toNat] w fun e w' => e = .returned (.bool true) ∧ w = w' := by
  rw [← h]; exact within_any spaces _ (by omega) (byte_le b) (by decide) w
theorem within_no (b : UInt8) (h : ¬ isSp b = true) (w : World) :
    Calls Try.prog 23 #[.string ⟨spaces.toArray⟩, .int .u8 b.toNat] w fun e w' => e = .returned (.bool false) ∧ w = w' := by
  rw [← (Bool.not_eq_true _).mp h]; exact within_any spaces _ (by omega) (byte_le b) (by decide) w

set_option maxHeartbeats 800000 in
theorem trimString_any (l : List UInt8) (hl : l.length ≤ 9223372036854775807) (w : World) :
    Calls Try.prog 24 #[.string ⟨l.toArray⟩] w fun e w' => e = .returned (.string ⟨(trimmed l).toArray⟩) ∧ w = w' := by
  go_enter Try.func24, Try.ntmps24
  go_wp2
  go_loop [0] (fun v => ∃ k : List UInt8, k.length ≤ l.length ∧ v = .string ⟨k.toArray⟩ ∧ trimL k = trimL l) (fun v => lenOf v)
  case atStart => exact ⟨l, Nat.le_refl _, rfl, rfl⟩
  case round =>
    obtain ⟨k, hk, rfl, heq⟩ := hrel
    have HE := Lib.hid heq
    clear heq
    have hex : (∃ b t, k = b :: t ∧ isSp b = true) ∨ (trimL k = k ∧ (k = [] ∨ ∃ b t, k = b :: t ∧ ¬ isSp b = true)) := by
      cases k with
      | nil => exact .inr ⟨rfl, .inl rfl⟩
      | cons b t =>
        by_cases hb : isSp b = true
        · exact .inl ⟨b, t, rfl, hb⟩
        · exact .inr ⟨trimL_cons_no hb, .inr ⟨b, t, rfl, hb⟩⟩
    rcases hex with ⟨b, t, rfl, hb⟩ | ⟨hk2, hex⟩
    · go_wp2_with (go_at_call 39; refine (isSpace_yes b hb _).mono ?_; rintro e w' ⟨rfl, rfl⟩)
      go_round
      case rel => exact ⟨t, by simp at hk; omega, by simp, by rw [← HE.out, trimL_cons_yes hb]⟩
      case measure => simp [lenOf_str]
    · have HE2 : Hid (k = trimL l) := hk2.symm.trans HE.out
      clear HE hk2
      rcases hex with rfl | ⟨b, t, rfl, hb⟩
      all_goals
        go_wp2_with (go_at_call 39; refine (isSpace_no b hb _).mono ?_; rintro e w' ⟨rfl, rfl⟩)
        go_loop [0] (fun v => ∃ k : List UInt8, k.length ≤ l.length ∧ v = .string ⟨k.toArray⟩ ∧ trimR k = trimR (trimL l)) (fun v => lenOf v)
        case atStart => exact ⟨_, hk, rfl, by rw [← HE2.out]⟩
        case round =>
          obtain ⟨k, hk, rfl, heq⟩ := hrel
          have HE := Lib.hid heq
          clear heq
          rcases List.eq_nil_or_concat k with rfl | ⟨t2, b2, rfl⟩
          · go_wp2_with fail
            go_ret
            exact ⟨ret_str (by rw [trimmed, ← HE.out]; rfl), rfl⟩
          · simp only [List.concat_eq_append] at *
            have hx : (t2 ++ [b2]).length = t2.length + 1 := by simp
            have hne : (t2 ++ [b2]).isEmpty = false := by simp
            by_cases hb2 : isSp b2 = true
            · go_wp2_with (go_at_call 39; refine (isSpace_yes b2 hb2 _).mono ?_; rintro e w' ⟨rfl, rfl⟩)
              go_round
              case rel => exact ⟨t2, by omega, by simp, by rw [← HE.out, trimR_snoc_yes hb2]⟩
              case measure => simp [lenOf_str]
            · go_wp2_with (go_at_call 39; refine (isSpace_no b2 hb2 _).mono ?_; rintro e w' ⟨rfl, rfl⟩)
              go_ret
              exact ⟨ret_str (by rw [trimmed, ← HE.out, trimR_snoc_no hb2]), rfl⟩

set_option maxHeartbeats 800000 in
theorem specTrim_any (l : List UInt8) (hl : l.length ≤ 9223372036854775807) (w : World) :
    Calls Try.prog 10 #[.string ⟨l.toArray⟩] w fun e w' => e = .returned (.string ⟨(trimmed l).toArray⟩) ∧ w = w' := by
  go_enter Try.func10, Try.ntmps10
  go_wp2
  go_loop [0] (fun v => ∃ k : List UInt8, k.length ≤ l.length ∧ v = .string ⟨k.toArray⟩ ∧ trimL k = trimL l) (fun v => lenOf v)
  case atStart => exact ⟨l, Nat.le_refl _, rfl, rfl⟩
  case round =>
    obtain ⟨k, hk, rfl, heq⟩ := hrel
    have HE := Lib.hid heq
    clear heq
    have hex : (∃ b t, k = b :: t ∧ isSp b = true) ∨ (trimL k = k ∧ (k = [] ∨ ∃ b t, k = b :: t ∧ ¬ isSp b = true)) := by
      cases k with
      | nil => exact .inr ⟨rfl, .inl rfl⟩
      | cons b t =>
        by_cases hb : isSp b = true
        · exact .inl ⟨b, t, rfl, hb⟩
        · exact .inr ⟨trimL_cons_no hb, .inr ⟨b, t, rfl, hb⟩⟩
    rcases hex with ⟨b, t, rfl, hb⟩ | ⟨hk2, hex⟩
    · go_wp2_with (go_at_call 23; refine (within_yes b hb _).mono ?_; rintro e w' ⟨rfl, rfl⟩)
      go_round
      case rel => exact ⟨t, by simp at hk; omega, by simp, by rw [← HE.out, trimL_cons_yes hb]⟩
      case measure => simp [lenOf_str]
    · have HE2 : Hid (k = trimL l) := hk2.symm.trans HE.out
      clear HE hk2
      rcases hex with rfl | ⟨b, t, rfl, hb⟩
      all_goals
        go_wp2_with (go_at_call 23; refine (within_no b hb _).mono ?_; rintro e w' ⟨rfl, rfl⟩)
        go_loop [0] (fun v => ∃ k : List UInt8, k.length ≤ l.length ∧ v = .string ⟨k.toArray⟩ ∧ trimR k = trimR (trimL l)) (fun v => lenOf v)
        case atStart => exact ⟨_, hk, rfl, by rw [← HE2.out]⟩
        case round =>
          obtain ⟨k, hk, rfl, heq⟩ := hrel
          have HE := Lib.hid heq
          clear heq
          rcases List.eq_nil_or_concat k with rfl | ⟨t2, b2, rfl⟩
          · go_wp2_with fail
            go_ret
            exact ⟨ret_str (by rw [trimmed, ← HE.out]; rfl), rfl⟩
          · simp only [List.concat_eq_append] at *
            have hx : (t2 ++ [b2]).length = t2.length + 1 := by simp
            have hne : (t2 ++ [b2]).isEmpty = false := by simp
            by_cases hb2 : isSp b2 = true
            · go_wp2_with (go_at_call 23; refine (within_yes b2 hb2 _).mono ?_; rintro e w' ⟨rfl, rfl⟩)
              go_round
              case rel => exact ⟨t2, by omega, by simp, by rw [← HE.out, trimR_snoc_yes hb2]⟩
              case measure => simp [lenOf_str]
            · go_wp2_with (go_at_call 23; refine (within_no b2 hb2 _).mono ?_; rintro e w' ⟨rfl, rfl⟩)
              go_ret
              exact ⟨ret_str (by rw [trimmed, ← HE.out, trimR_snoc_no hb2]), rfl⟩

set_option maxHeartbeats 800000 in
/-- TrimBytes: a slice that reads as l becomes one that reads as l trimmed. -/
theorem trimBytes_any (A : Option Addr) (l : List UInt8) (c : Nat) (hlc : l.length ≤ c) (hc : c ≤ 9223372036854775807) (w : World) (hr : RB w A l) :
    Calls Try.prog 25 #[.slice A l.length c] w fun e w' => RetB w (trimmed l) e ∧ w = w' := by
  have HR := Lib.hid hr
  clear hr
  go_enter Try.func25, Try.ntmps25
  go_wp2
  go_loop [0] (fun v => ∃ (A' : Option Addr) (c' : Nat) (k : List UInt8), k.length ≤ c' ∧ c' ≤ 9223372036854775807 ∧ v = .slice A' k.length c' ∧ trimL k = trimL l ∧ RB w A' k) (fun v => lenOf v)
  case atStart => exact ⟨A, c, l, hlc, hc, rfl, rfl, HR.out⟩
  case round =>
    obtain ⟨A', c', k, hk, hc', rfl, heq, hrb⟩ := hrel
    have HE := Lib.hid heq
    have HB := Lib.hid hrb
    clear heq hrb hlc hc
    have hex : (∃ b t, k = b :: t ∧ isSp b = true) ∨ (trimL k = k ∧ (k = [] ∨ ∃ b t, k = b :: t ∧ ¬ isSp b = true)) := by
      cases k with
      | nil => exact .inr ⟨rfl, .inl rfl⟩
      | cons b t =>
        by_cases hb : isSp b = true
        · exact .inl ⟨b, t, rfl, hb⟩
        · exact .inr ⟨trimL_cons_no hb, .inr ⟨b, t, rfl, hb⟩⟩
    rcases hex with ⟨b, t, rfl, hb⟩ | ⟨hk2, hex⟩
    · obtain ⟨g, o, rfl, hx⟩ := HB.out (by simp)
      have h0 : w.cell? ⟨g, o, none⟩ = some (.int .u8 b.toNat) := hx 0 b rfl
      clear hx
      have hlen : (b :: t).length = t.length + 1 := rfl
      go_wp2_with (go_at_call 39; refine (isSpace_yes b hb _).mono ?_; rintro e w' ⟨rfl, rfl⟩)
      go_round
      case rel => exact ⟨_, c' - 1, t, by omega, by omega, rfl, by rw [← HE.out, trimL_cons_yes hb], HB.out.tail (by omega)⟩
      case measure => simp [lenOf_slice]
    · have HE2 : Hid (k = trimL l) := hk2.symm.trans HE.out
      clear HE hk2
      have hh : k = [] ∨ ∃ b t g o, k = b :: t ∧ ¬ isSp b = true ∧ A' = some ⟨g, o, none⟩ ∧ w.cell? ⟨g, o, none⟩ = some (.int .u8 b.toNat) := by
        rcases hex with h | ⟨b, t, rfl, hb⟩
        · exact .inl h
        · obtain ⟨g, o, rfl, hx⟩ := HB.out (by simp)
          exact .inr ⟨b, t, g, o, rfl, hb, rfl, hx 0 b rfl⟩
      clear hex
      rcases hh with rfl | ⟨b, t, g, o, rfl, hb, rfl, h0⟩
      all_goals
        go_wp2_with (go_at_call 39; refine (isSpace_no b hb _).mono ?_; rintro e w' ⟨rfl, rfl⟩)
        go_loop [0] (fun v => ∃ (A' : Option Addr) (c' : Nat) (k : List UInt8), k.length ≤ c' ∧ c' ≤ 9223372036854775807 ∧ v = .slice A' k.length c' ∧ trimR k = trimR (trimL l) ∧ RB w A' k) (fun v => lenOf v)
        case atStart => exact ⟨_, _, _, hk, hc', rfl, by rw [← HE2.out], HB.out⟩
        case round =>
          clear hk hc' HB HE2
          obtain ⟨A', c', k, hk, hc', rfl, heq, hrb⟩ := hrel
          have HE := Lib.hid heq
          have HB := Lib.hid hrb
          clear heq hrb
          rcases List.eq_nil_or_concat k with rfl | ⟨t2, b2, rfl⟩
          · go_wp2_with fail
            go_ret
            exact ⟨RetB.mk (A := A') (c := c') (l := []) (by rw [trimmed, ← HE.out]; rfl) (Nat.zero_le _) hc' (RB.nil _ _), rfl⟩
          · simp only [List.concat_eq_append] at *
            have hx : (t2 ++ [b2]).length = t2.length + 1 := by simp
            obtain ⟨g, o, rfl, hxx⟩ := HB.out (by simp)
            have h0 := hxx t2.length b2 (by simp)
            clear hxx
            by_cases hb2 : isSp b2 = true
            · go_wp2_with (go_at_call 39; refine (isSpace_yes b2 hb2 _).mono ?_; rintro e w' ⟨rfl, rfl⟩)
              go_round
              case rel => exact ⟨_, _, t2, by omega, hc', rfl, by rw [← HE.out, trimR_snoc_yes hb2], HB.out.left⟩
              case measure => simp [lenOf_slice]
            · go_wp2_with (go_at_call 39; refine (isSpace_no b2 hb2 _).mono ?_; rintro e w' ⟨rfl, rfl⟩)
              go_ret
              refine ⟨?_, rfl⟩
              have R := RetB.mk (l' := trimmed l) (by rw [trimmed, ← HE.out, trimR_snoc_no hb2]) hk hc' HB.out
              rw [hx] at R
              exact R
end Go.Proofs.Ytaoedejenjfhoaa
