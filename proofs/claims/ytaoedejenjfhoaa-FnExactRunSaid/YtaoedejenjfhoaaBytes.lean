/- The contracts of the functions on one byte: spec.within, spec.FieldByte, spec.ValueByte, validHeaderFieldByte, validHeaderValueByte, isASCIISpace. No conditions but that a byte is a byte. -/
import Derived.Test.YtaoedejenjfhoaaRows
import Derived.Test.YtaoedejenjfhoaaBase
namespace Go.Proofs.Ytaoedejenjfhoaa
open Go.RowKit

/-- spec.within as a plain test. -/
def withinB (l : List UInt8) (n : Int) : Bool := l.any (fun b => (b.toNat : Int) == n)

theorem withinB_nil (n : Int) : withinB [] n = false := rfl
theorem withinB_snoc (l : List UInt8) (b : UInt8) (n : Int) : withinB (l ++ [b]) n = (withinB l n || ((b.toNat : Int) == n)) := by
  unfold withinB; simp
theorem withinB_hit (l : List UInt8) (k : Nat) (h : k < l.length) (n : Int) (e : (l[k].toNat : Int) = n) : withinB l n = true := by
  unfold withinB
  rw [List.any_eq_true]
  exact ⟨l[k], List.getElem_mem _, by simpa using e⟩

set_option maxHeartbeats 400000 in
theorem within_any (l : List UInt8) (n : Int) (_h0 : 0 ≤ n) (_h1 : n ≤ 255) (hs : l.length ≤ 9223372036854775807) (w : World) :
    Calls Try.prog 23 #[.string ⟨l.toArray⟩, .int .u8 n] w fun e w' => e = .returned (.bool (withinB l n)) ∧ w = w' := by
  go_enter Try.func23, Try.ntmps23
  go_wp2
  go_loop [5] (fun i => ∃ k : Nat, k ≤ l.length ∧ i = .int .i64 k ∧ withinB (l.take k) n = false) (fun i => l.length - (intOf i).toNat)
  case atStart => exact ⟨0, Nat.zero_le _, rfl, rfl⟩
  case round =>
    obtain ⟨k, hk, rfl, hno⟩ := hrel
    have HN := Lib.hid hno
    clear hno
    by_cases hlt : k < l.length
    · by_cases hc : (l[k].toNat : Int) = n
      · go_wp2
        go_ret
        exact ⟨ret_bool (withinB_hit l k hlt n hc).symm, rfl⟩
      · go_wp2
        go_round
        case rel => exact ⟨k + 1, by omega, by go_num, by rw [List.take_succ_eq_append_getElem hlt, withinB_snoc, HN.out]; simpa using hc⟩
        case measure => simp [intOf]; omega
    · go_wp2
      go_ret
      exact ⟨ret_bool (by
        have h := HN.out
        rw [List.take_of_length_le (by omega)] at h
        exact h.symm), rfl⟩

/-- validHeaderValueByte, as it reckons. -/
def valueMask (n : Int) : Bool :=
  bits BinOp.or IntKind.u64 (bits BinOp.andNot IntKind.u64 (IntKind.u64.wrap (2 ^ min n.toNat 64)) 18446744069414584832)
    (bits BinOp.andNot IntKind.u64 (IntKind.u64.wrap (2 ^ min ((n - 64) % 256).toNat 64)) 9223372036854775807) == 0
/-- validHeaderFieldByte, as it reckons. -/
def fieldMask (n : Int) : Bool :=
  bits BinOp.or IntKind.u64 (bits BinOp.and IntKind.u64 (IntKind.u64.wrap (2 ^ min n.toNat 64)) 288068722172624896)
    (bits BinOp.and IntKind.u64 (IntKind.u64.wrap (2 ^ min ((n - 64) % 256).toNat 64)) 6341068274398134270) != 0

/-- A byte of values. -/
def valueB (n : Int) : Bool := decide (32 ≤ n) && !(n == 127) || n == 9
/-- The signs of a token. -/
def signs : List UInt8 := [33, 35, 36, 37, 38, 39, 42, 43, 45, 46, 94, 95, 96, 124, 126]
/-- A byte of keys. -/
def fieldB (n : Int) : Bool :=
  decide (97 ≤ n) && decide (n ≤ 122) || decide (65 ≤ n) && decide (n ≤ 90) || decide (48 ≤ n) && decide (n ≤ 57) || withinB signs n

theorem forall_byte {p : Int → Bool} (h : (List.range 256).all (fun k => p k) = true) (n : Int) (h0 : 0 ≤ n) (h1 : n ≤ 255) : p n = true := by
  obtain ⟨k, rfl⟩ := Int.eq_ofNat_of_zero_le h0
  exact List.all_eq_true.1 h k (List.mem_range.2 (by omega))
theorem valueMask_eq (n : Int) (h0 : 0 ≤ n) (h1 : n ≤ 255) : valueMask n = valueB n := by
  have := forall_byte (p := fun n => valueMask n == valueB n) (by decide +kernel) n h0 h1
  simpa using this
theorem fieldMask_eq (n : Int) (h0 : 0 ≤ n) (h1 : n ≤ 255) : fieldMask n = fieldB n := by
  have := forall_byte (p := fun n => fieldMask n == fieldB n) (by decide +kernel) n h0 h1
  simpa using this

set_option maxHeartbeats 400000 in
theorem validValue_any (n : Int) (h0 : 0 ≤ n) (h1 : n ≤ 255) (w : World) :
    Calls Try.prog 38 #[.int .u8 n] w fun e w' => e = .returned (.bool (valueB n)) ∧ w = w' := by
  have h2 : 0 ≤ (n - 64) % 256 := by omega
  go_enter Try.func38, Try.ntmps38
  go_wp2
  go_ret
  exact ⟨ret_bool (valueMask_eq n h0 h1), rfl⟩

set_option maxHeartbeats 400000 in
theorem validField_any (n : Int) (h0 : 0 ≤ n) (h1 : n ≤ 255) (w : World) :
    Calls Try.prog 40 #[.int .u8 n] w fun e w' => e = .returned (.bool (fieldB n)) ∧ w = w' := by
  have h2 : 0 ≤ (n - 64) % 256 := by omega
  go_enter Try.func40, Try.ntmps40
  go_wp2
  go_ret
  exact ⟨ret_bool (fieldMask_eq n h0 h1), rfl⟩

set_option maxHeartbeats 400000 in
theorem specValue_any (n : Int) (h0 : 0 ≤ n) (h1 : n ≤ 255) (w : World) :
    Calls Try.prog 9 #[.int .u8 n] w fun e w' => e = .returned (.bool (valueB n)) ∧ w = w' := by
  by_cases a : 32 ≤ n
  · by_cases b : n = 127
    · subst b
      go_enter Try.func9, Try.ntmps9
      go_wp2
      go_ret
      exact ⟨rfl, rfl⟩
    · go_enter Try.func9, Try.ntmps9
      go_wp2
      go_ret
      exact ⟨ret_bool (by rw [Bool.eq_iff_iff]; simp [valueB]; omega), rfl⟩
  · by_cases b : n = 9
    · subst b
      go_enter Try.func9, Try.ntmps9
      go_wp2
      go_ret
      exact ⟨rfl, rfl⟩
    · go_enter Try.func9, Try.ntmps9
      go_wp2
      go_ret
      exact ⟨ret_bool (by rw [Bool.eq_iff_iff]; simp [valueB]; omega), rfl⟩

set_option maxHeartbeats 800000 in
theorem specField_any (n : Int) (h0 : 0 ≤ n) (h1 : n ≤ 255) (w : World) :
    Calls Try.prog 14 #[.int .u8 n] w fun e w' => e = .returned (.bool (fieldB n)) ∧ w = w' := by
  go_each [97 ≤ n, n ≤ 122, 65 ≤ n, n ≤ 90, 48 ≤ n, n ≤ 57] => (
    go_enter Try.func14, Try.ntmps14
    go_wp2_with (go_at_call 23; refine (within_any _ _ h0 h1 (by decide) _).mono ?_; rintro e w' ⟨rfl, rfl⟩)
    go_ret
    exact ⟨ret_bool (by unfold fieldB signs; generalize withinB [33, 35, 36, 37, 38, 39, 42, 43, 45, 46, 94, 95, 96, 124, 126] n = z; rw [Bool.eq_iff_iff]; cases z <;> simp <;> omega), rfl⟩)

set_option maxHeartbeats 400000 in
theorem isSpace_any (n : Int) (h0 : 0 ≤ n) (h1 : n ≤ 255) (w : World) :
    Calls Try.prog 39 #[.int .u8 n] w fun e w' => e = .returned (.bool (withinB [32, 9, 13, 10] n)) ∧ w = w' := by
  go_each [n = 32, n = 9, n = 10, n = 13] => (
    go_enter Try.func39, Try.ntmps39
    go_wp2
    go_ret
    exact ⟨ret_bool (by rw [Bool.eq_iff_iff]; simp [withinB]; omega), rfl⟩)
end Go.Proofs.Ytaoedejenjfhoaa
