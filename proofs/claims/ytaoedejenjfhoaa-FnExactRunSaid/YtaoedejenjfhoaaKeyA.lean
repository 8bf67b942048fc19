/- The contracts of spec.Key, spec.Canon, canonicalMIMEHeaderKey and CanonicalMIMEHeaderKey. -/
import Derived.Test.YtaoedejenjfhoaaFix
import Derived.Test.YtaoedejenjfhoaaConv
namespace Go.Proofs.Ytaoedejenjfhoaa
open Go.RowKit

set_option maxHeartbeats 400000 in
theorem key_any (l : List UInt8) (hl : l.length ≤ 9223372036854775807) (w : World) :
    Calls Try.prog 28 #[.string ⟨l.toArray⟩] w fun e w' => e = .returned (.bool (keyB l && !l.isEmpty)) ∧ w = w' := by
  go_enter Try.func28, Try.ntmps28
  go_wp2
  go_loop [3] (fun i => ∃ k : Nat, k ≤ l.length ∧ i = .int .i64 k ∧ keyB (l.take k) = true) (fun i => l.length - (intOf i).toNat)
  case atStart => exact ⟨0, Nat.zero_le _, rfl, rfl⟩
  case round =>
    obtain ⟨k, hk, rfl, hno⟩ := hrel
    have HN := Lib.hid hno
    clear hno
    by_cases hlt : k < l.length
    · rcases hb : fieldB l[k].toNat with _ | _
      · have HB := Lib.hid hb
        clear hb
        go_wp2_with (go_at_call 14; refine (specField_any l[k].toNat (by omega) (byte_le _) _).mono ?_; rw [HB.out]; rintro e w' ⟨rfl, rfl⟩)
        go_ret
        exact ⟨ret_bool (by rw [keyB_no k hlt HB.out]; rfl), rfl⟩
      · have HB := Lib.hid hb
        clear hb
        go_wp2_with (go_at_call 14; refine (specField_any l[k].toNat (by omega) (byte_le _) _).mono ?_; rw [HB.out]; rintro e w' ⟨rfl, rfl⟩)
        go_round
        case rel => exact ⟨k + 1, by omega, by go_num, by rw [keyB_take_succ l k hlt, HN.out, HB.out]; rfl⟩
        case measure => simp [intOf]; omega
    · go_wp2
      go_ret
      exact ⟨ret_bool (by
        have h := HN.out
        rw [List.take_of_length_le (by omega)] at h
        rw [h]; simp), rfl⟩

/-- The bytes behind k rounds of the loop that makes a key canonical. -/
def mixed (l : List UInt8) (k : Nat) (i : Nat) : Int := if i < k then (fix (upAt l i) (l.getD i 0)).toNat else (l.getD i 0).toNat
theorem mixed_zero (l : List UInt8) (i : Nat) : mixed l 0 i = (l.getD i 0).toNat := by simp [mixed]
theorem mixed_at (l : List UInt8) (k : Nat) (h : k < l.length) : mixed l k k = (l[k].toNat : Int) := by simp [mixed, List.getElem?_eq_getElem h]
theorem mixed_succ_at (l : List UInt8) (k : Nat) (h : k < l.length) : mixed l (k + 1) k = fixN (upAt l k) l[k].toNat := by
  unfold mixed
  rw [if_pos (by omega), fix_toNat]; simp [List.getElem?_eq_getElem h]
theorem mixed_succ_other (l : List UInt8) (k i : Nat) (h : i ≠ k) : mixed l (k + 1) i = mixed l k i := by
  unfold mixed
  by_cases hi : i < k
  · rw [if_pos (by omega), if_pos hi]
  · rw [if_neg (by omega), if_neg hi]
theorem mixed_end (l : List UInt8) (i : Nat) (h : i < l.length) : mixed l l.length i = ((canonL l).getD i 0).toNat := by
  unfold mixed
  rw [if_pos h, List.getD_eq_getElem?_getD, List.getD_eq_getElem?_getD, canonL_get? l i h, List.getElem?_eq_getElem h]
  rfl

theorem canon_keep {w : World} {g o : Nat} {l : List UInt8} {k : Nat} (hr : Row w g o l.length (mixed l k)) (hlt : k < l.length) (h : fixN (upAt l k) l[k].toNat = l[k].toNat) :
    Row w g o l.length (mixed l (k + 1)) :=
  hr.same fun i _ => by
    by_cases hi : i = k
    · subst hi; rw [mixed_succ_at l i hlt, mixed_at l i hlt, h]
    · exact mixed_succ_other l k i hi
theorem canon_set {w : World} {g o : Nat} {l : List UInt8} {k : Nat} (hr : Row w g o l.length (mixed l k)) (hlt : k < l.length) {x : Int} (h : fixN (upAt l k) l[k].toNat = x) :
    Row (w.setCell ⟨g, o + k, none⟩ (.int .u8 x)) g o l.length (mixed l (k + 1)) :=
  hr.set hlt x (by rw [mixed_succ_at l k hlt, h]) fun i _ hi => mixed_succ_other l k i hi
theorem canon_set0 {w : World} {g : Nat} {l : List UInt8} {k : Nat} (hr : Row w g 0 l.length (mixed l k)) (hlt : k < l.length) {x : Int} (h : fixN (upAt l k) l[k].toNat = x) :
    Row (w.setCell ⟨g, k, none⟩ (.int .u8 x)) g 0 l.length (mixed l (k + 1)) := by
  have := canon_set hr hlt h
  rwa [Nat.zero_add] at this

set_option maxHeartbeats 1600000 in
theorem specCanon_yes (l : List UInt8) (hl : l.length ≤ 9223372036854775807) (hk : (keyB l && !l.isEmpty) = true) (w : World) :
    Calls Try.prog 16 #[.string ⟨l.toArray⟩] w fun e w' => e = .returned (.string ⟨(canonOf l).toArray⟩) ∧ Below w.heap.size w w' := by
  have HK := Lib.hid hk
  clear hk
  go_enter Try.func16, Try.ntmps16
  go_wp2_with (first
    | (go_at_call 28; refine (key_any l hl _).mono ?_; rw [HK.out]; rintro e w' ⟨rfl, rfl⟩)
    | (with_reducible refine at_toBytes ?_; refine wpList_toBytes rfl _ rfl l rfl hl ?_; intro c w1 hf))
  obtain ⟨hb, hz, hc, hc', hrow⟩ := hf
  have HR := Lib.hid hrow
  clear hrow
  go_loopw [4, 15] (fun u i wr => ∃ k : Nat, k ≤ l.length ∧ i = .int .i64 k ∧ u = .bool (upAt l k) ∧ Row wr w.heap.size 0 l.length (mixed l k) ∧ Below w.heap.size w wr) (fun _ i _ => l.length - (intOf i).toNat)
  case atStart => exact ⟨0, Nat.zero_le _, rfl, by rw [upAt_zero], HR.out.same (fun i _ => mixed_zero l i), hb⟩
  case round =>
    obtain ⟨k, hk, rfl, rfl, hr, hbw⟩ := hrel
    have HR := Lib.hid hr
    clear hr
    by_cases hlt : k < l.length
    · have hcell := HR.out.cell hlt
      rw [mixed_at l k hlt, Nat.zero_add] at hcell
      have hfree := HR.out.free hlt
      rw [Nat.zero_add] at hfree
      go_wp2
      all_goals
        go_roundw
        case rel =>
          first
            | exact ⟨k + 1, by omega, by go_num, by rw [upAt_succ l k hlt], canon_keep HR.out hlt (by unfold fixN lowB capB; simp [*] <;> omega), hbw⟩
            | exact ⟨k + 1, by omega, by go_num, by rw [upAt_succ l k hlt], canon_set0 HR.out hlt (by unfold fixN lowB capB; simp [*] <;> omega), hbw.setCell (Nat.le_refl _) _⟩
        case measure => simp [intOf]; omega
    · obtain rfl : k = l.length := by omega
      have hcv := run_toString (w := wr) (g := w.heap.size) (o := 0) (c := c) (l := canonL l) (canonL_length l).symm (HR.out.same fun i hi => (mixed_end l i hi).symm)
      go_wp2
      go_ret
      exact ⟨ret_str (by unfold canonOf; rw [if_pos (by have := HK.out; simp at this; exact this.1)]), hbw⟩

theorem canonOf_no {l : List UInt8} (hk : (keyB l && !l.isEmpty) = false) : canonOf l = l := by
  unfold canonOf
  split
  · rename_i h
    rw [h] at hk
    simp at hk
    subst hk; rfl
  · rfl
theorem specCanon_no (l : List UInt8) (hl : l.length ≤ 9223372036854775807) (hk : (keyB l && !l.isEmpty) = false) (w : World) :
    Calls Try.prog 16 #[.string ⟨l.toArray⟩] w fun e w' => e = .returned (.string ⟨(canonOf l).toArray⟩) ∧ Below w.heap.size w w' := by
  have HK := Lib.hid hk
  clear hk
  go_enter Try.func16, Try.ntmps16
  go_wp2_with (go_at_call 28; refine (key_any l hl _).mono ?_; rw [HK.out]; rintro e w' ⟨rfl, rfl⟩)
  go_ret
  exact ⟨ret_str (canonOf_no HK.out).symm, Below.refl _ _⟩
theorem specCanon_any (l : List UInt8) (hl : l.length ≤ 9223372036854775807) (w : World) :
    Calls Try.prog 16 #[.string ⟨l.toArray⟩] w fun e w' => e = .returned (.string ⟨(canonOf l).toArray⟩) ∧ Below w.heap.size w w' := by
  rcases hk : (keyB l && !l.isEmpty) with _ | _
  · exact specCanon_no l hl hk w
  · exact specCanon_yes l hl hk w

/-- A byte that a key read from a line may bear. -/
def loose (b : UInt8) : Bool := fieldB b.toNat || b == 32
/-- Does canonicalMIMEHeaderKey take it for a key? -/
def looseKey (l : List UInt8) : Bool := !l.isEmpty && l.all loose

theorem fieldB_iff_32 (b : UInt8) (h : fieldB b.toNat = true) : ((b.toNat : Int) == 32) = false := by
  rw [beq_eq_false_iff_ne]
  intro he
  rw [he, fieldB_no_32] at h; cases h

theorem all_take_succ (p : UInt8 → Bool) (l : List UInt8) (k : Nat) (h : k < l.length) : (l.take (k + 1)).all p = ((l.take k).all p && p l[k]) := by
  rw [List.take_succ_eq_append_getElem h, List.all_append]; simp
theorem any_take_succ (p : UInt8 → Bool) (l : List UInt8) (k : Nat) (h : k < l.length) : (l.take (k + 1)).any p = ((l.take k).any p || p l[k]) := by
  rw [List.take_succ_eq_append_getElem h, List.any_append]; simp
/-- Is there a space? -/
def spaced (l : List UInt8) : Bool := l.any (fun b => (b.toNat : Int) == 32)
theorem byte32 (b : UInt8) : ((b.toNat : Int) == 32) = (b == 32) := by
  rw [Bool.eq_iff_iff, beq_iff_eq, beq_iff_eq]
  have := byte_eq_iff b 32
  simpa using this
theorem keyB_of_loose {l : List UInt8} (h : l.all loose = true) (hs : spaced l = false) : keyB l = true := by
  unfold keyB
  rw [List.all_eq_true] at h ⊢
  intro b hb
  have h1 := h b hb
  unfold spaced at hs
  rw [List.any_eq_false] at hs
  have h2 := hs b hb
  rw [byte32] at h2
  unfold loose at h1
  simpa [h2] using h1
theorem keyB_spaced {l : List UInt8} (hs : spaced l = true) : keyB l = false := by
  unfold spaced at hs
  rw [List.any_eq_true] at hs
  obtain ⟨b, hb, h2⟩ := hs
  rcases hk : keyB l with _ | _
  · rfl
  · have := List.all_eq_true.1 hk b hb
    rw [beq_iff_eq.1 h2, fieldB_no_32] at this; cases this
theorem canonOf_yes {l : List UInt8} (h : keyB l = true) : canonOf l = canonL l := by unfold canonOf; rw [if_pos h]
theorem canonOf_bad {l : List UInt8} (h : keyB l = false) : canonOf l = l := by unfold canonOf; rw [h]; rfl
theorem looseKey_yes {l : List UInt8} (h : 0 < l.length) (h2 : l.all loose = true) : looseKey l = true := by
  unfold looseKey; rw [h2]; cases l with
  | nil => simp at h
  | cons b t => rfl
theorem looseKey_no {l : List UInt8} {k : Nat} (h : k < l.length) (h2 : loose l[k] = false) : looseKey l = false := by
  unfold looseKey
  rw [Bool.and_eq_false_iff]; right
  rcases hk : l.all loose with _ | _
  · rfl
  · have := List.all_eq_true.1 hk l[k] (List.getElem_mem _)
    rw [h2] at this; cases this
theorem ret_two {a b : List UInt8} {x y : Bool} (h : a = b) (h2 : x = y) : Ending.returned (.tuple #[.string ⟨a.toArray⟩, .bool x]) = .returned (.tuple #[.string ⟨b.toArray⟩, .bool y]) := by rw [h, h2]

set_option maxHeartbeats 400000 in
theorem canonKey_any (A : Option Addr) (l : List UInt8) (c g o : Nat) (hA : l ≠ [] → A = some ⟨g, o, none⟩) (hlc : l.length ≤ c) (hc : c ≤ 9223372036854775807) (w : World) (hr : Row w g o l.length (fun i => (l.getD i 0).toNat)) :
    Calls Try.prog 41 #[.slice A l.length c] w fun e w' => e = .returned (.tuple #[.string ⟨(canonOf l).toArray⟩, .bool (looseKey l)]) ∧ Wrote g o (o + l.length) w w' := by
  cases l with
  | nil =>
    go_enter Try.func41, Try.ntmps41
    go_wp2
    go_ret2
    exact ⟨rfl, Wrote.refl _ _ _ _⟩
  | cons b t =>
    obtain rfl := hA (by simp)
    clear hA
    obtain ⟨l, hl⟩ : ∃ l, l = b :: t := ⟨_, rfl⟩
    rw [← hl] at hlc hr ⊢
    have hpos : 0 < l.length := by rw [hl]; simp
    have HR := Lib.hid hr
    clear hr hl b t
    go_enter Try.func41, Try.ntmps41
    have hcv0 := run_toString (c := c) rfl HR.out
    have hl0 : ((l.length : Int) == 0) = false := by rw [beq_eq_false_iff_ne]; omega
    go_wp2
    go_loop [4, 15] (fun s i => ∃ k : Nat, k ≤ l.length ∧ i = .int .i64 k ∧ s = .bool (spaced (l.take k)) ∧ (l.take k).all loose = true) (fun _ i => l.length - (intOf i).toNat)
    case atStart => exact ⟨0, Nat.zero_le _, rfl, rfl, rfl⟩
    case round =>
      obtain ⟨k, hk, rfl, rfl, hno⟩ := hrel
      have HN := Lib.hid hno
      clear hno
      by_cases hlt : k < l.length
      · have hcell := HR.out.cell hlt
        rw [List.getD_eq_getElem?_getD, List.getElem?_eq_getElem hlt] at hcell
        rcases hb : fieldB l[k].toNat with _ | _
        · have HB := Lib.hid hb
          clear hb
          rcases h32 : ((l[k].toNat : Int) == 32) with _ | _
          rotate_left
          · go_wp2_with (go_at_call 40; refine (validField_any l[k].toNat (by omega) (byte_le _) _).mono ?_; rw [HB.out]; rintro e w' ⟨rfl, rfl⟩)
            go_round
            case rel => exact ⟨k + 1, by omega, by go_num, by unfold spaced; rw [any_take_succ _ l k hlt, h32]; simp, by rw [all_take_succ _ l k hlt, HN.out, loose, ← byte32, h32]; simp⟩
            case measure => simp [intOf]; omega
          · go_wp2_with (go_at_call 40; refine (validField_any l[k].toNat (by omega) (byte_le _) _).mono ?_; rw [HB.out]; rintro e w' ⟨rfl, rfl⟩)
            go_ret2
            exact ⟨ret_two (canonOf_bad (keyB_no k hlt HB.out)).symm (looseKey_no hlt (by rw [loose, ← byte32, HB.out, h32]; rfl)).symm, Wrote.refl _ _ _ _⟩
        · have HB := Lib.hid hb
          have h32 := fieldB_iff_32 l[k] hb
          clear hb
          go_wp2_with (go_at_call 40; refine (validField_any l[k].toNat (by omega) (byte_le _) _).mono ?_; rw [HB.out]; rintro e w' ⟨rfl, rfl⟩)
          go_round
          case rel => exact ⟨k + 1, by omega, by go_num, by unfold spaced; rw [any_take_succ _ l k hlt, h32]; simp, by rw [all_take_succ _ l k hlt, HN.out, loose, HB.out]; rfl⟩
          case measure => simp [intOf]; omega
      · obtain rfl : k = l.length := by omega
        have HN2 : Hid (l.all loose = true) := by have := HN.out; rwa [List.take_length] at this
        rw [List.take_length]
        clear HN hlt hk
        rcases hsp : spaced l with _ | _
        · have HK : Hid (keyB l = true) := keyB_of_loose HN2.out hsp
          go_wp2
          clear hcv0 hsp
          go_loopw [7, 31] (fun u i wr => ∃ k : Nat, k ≤ l.length ∧ i = .int .i64 k ∧ u = .bool (upAt l k) ∧ Row wr g o l.length (mixed l k) ∧ Wrote g o (o + l.length) w wr) (fun _ i _ => l.length - (intOf i).toNat)
          case atStart => exact ⟨0, Nat.zero_le _, rfl, by rw [upAt_zero], HR.out.same (fun i _ => mixed_zero l i), Wrote.refl _ _ _ _⟩
          case round =>
            clear HR
            obtain ⟨k, hk, rfl, rfl, hr, hbw⟩ := hrel
            have HR := Lib.hid hr
            clear hr
            by_cases hlt : k < l.length
            · have hcell := HR.out.cell hlt
              rw [mixed_at l k hlt] at hcell
              have hfree := HR.out.free hlt
              go_wp2
              all_goals
                go_roundw
                case rel =>
                  exact ⟨k + 1, by omega, by go_num, by refine congrArg Value.bool ?_; first | (rw [upAt_succ l k hlt]; done) | (rw [upAt_succ l k hlt, Bool.eq_iff_iff]; simp; omega), canon_set HR.out hlt (by unfold fixN lowB capB; simp [*] <;> omega), hbw.setCell (by omega) (by omega) _⟩
                case measure => simp [intOf]; omega
            · obtain rfl : k = l.length := by omega
              have hcv := run_toString (w := wr) (g := g) (o := o) (c := c) (l := canonL l) (canonL_length l).symm (HR.out.same fun i hi => (mixed_end l i hi).symm)
              go_wp2
              go_ret2
              exact ⟨ret_two (canonOf_yes HK.out).symm (looseKey_yes hpos HN2.out).symm, hbw⟩
        · have HK : Hid (keyB l = false) := keyB_spaced hsp
          go_wp2
          go_ret2
          exact ⟨ret_two (canonOf_bad HK.out).symm (looseKey_yes hpos HN2.out).symm, Wrote.refl _ _ _ _⟩

end Go.Proofs.Ytaoedejenjfhoaa
