import Derived.Test.YtaoedejenjfhoaaKeyA
namespace Go.Proofs.Ytaoedejenjfhoaa
open Go.RowKit
/-- CanonicalMIMEHeaderKey. -/
theorem canon_quick {l : List UInt8} (h : ∀ j (hj : j < l.length), fieldB l[j].toNat = true ∧ fix (upAt l j) l[j] = l[j]) : canonOf l = l := by
  unfold canonOf
  split
  · exact canonL_same fun k hk => (h k hk).2
  · rfl
theorem fix_of_fixN {up : Bool} {b : UInt8} (h : fixN up b.toNat = b.toNat) : fix up b = b := by
  apply UInt8.toNat_inj.1
  have := fix_toNat up b
  rw [h] at this
  omega
theorem quick_step {l : List UInt8} {k : Nat} (hn : ∀ j (hj : j < l.length), j < k → fieldB l[j].toNat = true ∧ fix (upAt l j) l[j] = l[j]) (hlt : k < l.length) (hb : fieldB l[k].toNat = true)
    (hx : fixN (upAt l k) l[k].toNat = l[k].toNat) : ∀ j (hj : j < l.length), j < k + 1 → fieldB l[j].toNat = true ∧ fix (upAt l j) l[j] = l[j] := by
  intro j hj hjk
  by_cases h : j < k
  · exact hn j hj h
  · obtain rfl : j = k := by omega
    exact ⟨hb, fix_of_fixN hx⟩
set_option maxHeartbeats 800000 in
theorem canonHeader_any (l : List UInt8) (hl : l.length ≤ 9223372036854775807) (w : World) :
    Calls Try.prog 27 #[.string ⟨l.toArray⟩] w fun e w' => e = .returned (.string ⟨(canonOf l).toArray⟩) ∧ Below w.heap.size w w' := by
  go_enter Try.func27, Try.ntmps27
  go_wp2
  go_loop [0, 3, 4] (fun s u i => ∃ k : Nat, k ≤ l.length ∧ i = .int .i64 k ∧ s = .string ⟨l.toArray⟩ ∧ u = .bool (upAt l k) ∧ ∀ j (hj : j < l.length), j < k → fieldB l[j].toNat = true ∧ fix (upAt l j) l[j] = l[j]) (fun _ _ i => l.length - (intOf i).toNat)
  case atStart => exact ⟨0, Nat.zero_le _, rfl, rfl, by rw [upAt_zero], fun j _ h => absurd h (by omega)⟩
  case round =>
    obtain ⟨k, hk, rfl, rfl, rfl, hno⟩ := hrel
    have HN := Lib.hid hno
    clear hno
    by_cases hlt : k < l.length
    · rcases hb : fieldB l[k].toNat with _ | _
      · have HB := Lib.hid hb
        clear hb
        go_wp2_with (go_at_call 40; refine (validField_any l[k].toNat (by omega) (byte_le _) _).mono ?_; rw [HB.out]; rintro e w' ⟨rfl, rfl⟩)
        go_ret
        exact ⟨ret_str (canonOf_bad (keyB_no k hlt HB.out)).symm, Below.refl _ _⟩
      · have HB := Lib.hid hb
        clear hb
        go_wp2_with (first
          | (go_at_call 40; refine (validField_any l[k].toNat (by omega) (byte_le _) _).mono ?_; rw [HB.out]; rintro e w' ⟨rfl, rfl⟩)
          | (with_reducible refine at_toBytes ?_; refine wpList_toBytes rfl _ rfl l rfl hl ?_; intro c w1 hf)
          | (go_at_call 41; refine (canonKey_any _ l _ _ 0 (fun _ => rfl) hf.le hf.le' _ hf.row).mono ?_; rintro e w2 ⟨rfl, hwr⟩))
        all_goals
          first
            | (go_ret; exact ⟨rfl, hf.below.trans (hwr.below (Nat.le_refl _))⟩)
            | (go_round
               case rel => exact ⟨k + 1, by omega, by go_num, rfl, by rw [upAt_succ l k hlt], quick_step HN.out hlt HB.out (by unfold fixN lowB capB; simp [*] <;> omega)⟩
               case measure => simp [intOf]; omega)
    · go_wp2
      go_ret
      exact ⟨ret_str (canon_quick fun j hj => HN.out j hj (by omega)).symm, Below.refl _ _⟩
end Go.Proofs.Ytaoedejenjfhoaa
