/- ParseCodeLine by way of impl.Code, and the reference's Coded, Digits, Fits: the walks. -/
import Derived.Test.YtfnkkjehkegpgaaDoorCodeA
import Derived.Test.YtfnkkjehkegpgaaDoorMem
namespace Go.Proofs.YtfnkkjehkegpgaaDoor
open Go.RowKit

theorem parseCode_any (E : Nat → Addr) (gs : List Nat) (l : List UInt8) (x : Int) (hl : l.length ≤ 9223372036854775807) (w : World) (hs : Sens w E gs) (hg : 5 ∈ gs) :
    Calls Tryd.prog 24 #[.string ⟨l.toArray⟩, .int .i64 x] w fun e w' => RetCode E gs (parseL x l) e ∧ Below w.heap.size w w' := by
  go_enter Tryd.func24, Tryd.ntmps24
  go_wp2_with (go_at_call 32; refine (parse_any E gs l x hl _ hs hg).mono ?_; rintro e w1 ⟨⟨er, hin, hnum, rfl⟩, hb⟩)
  ((try simp only [Exit.inBlock, Exit.then]); refine bodyPost_ret (results_tmp4 rfl _ _ _) rfl ?_)
  exact ⟨⟨er, hin, hnum, rfl⟩, hb⟩
theorem implCode_any (E : Nat → Addr) (gs : List Nat) (l : List UInt8) (x : Int) (hl : l.length ≤ 9223372036854775807) (w : World) (hs : Sens w E gs) (hg : 5 ∈ gs) (h0 : 0 ∈ gs) (h1 : 1 ∈ gs) :
    Calls Tryd.prog 14 #[.string ⟨l.toArray⟩, .int .i64 x] w fun e w' => e = .returned (.tuple #[.int .i64 (parseL x l).1, .bool (parseL x l).2.1, .string ⟨(parseL x l).2.2.1.toArray⟩, .int .i64 (parseL x l).2.2.2]) ∧ Below w.heap.size w w' := by
  go_enter Tryd.func14, Tryd.ntmps14
  go_wp2_with (first
    | (go_at_call 24; refine (parseCode_any E gs l x hl _ hs hg).mono ?_; rintro e w1 ⟨⟨er, hin, hnum, rfl⟩, hb⟩)
    | (go_at_call 22; refine (state_any _ (hs.below hb) h0 h1 er hin).mono ?_; rintro e w' ⟨rfl, rfl⟩))
  ((try simp only [Exit.inBlock, Exit.then]); refine bodyPost_ret (results_tmp4 rfl _ _ _) rfl ?_)
  exact ⟨rfl, hb⟩

theorem specFits_any (n x : Int) (h1 : 100 ≤ n) (h2 : n ≤ 999) (w : World) :
    Calls Tryd.prog 9 #[.int .i64 n, .int .i64 x] w fun e w' => e = .returned (.tuple #[.bool (decide (x < 1000) && fitsN n x), .bool (decide (x < 1000))]) ∧ w = w' := by
  have hq : 0 ≤ n / 100 := by omega
  have hr : 0 ≤ n / 10 := by omega
  rcases (show x < 1 ∨ (1 ≤ x ∧ x < 10) ∨ (10 ≤ x ∧ x < 100) ∨ (100 ≤ x ∧ x < 1000) ∨ 1000 ≤ x by omega) with hx | ⟨hx, hx'⟩ | ⟨hx, hx'⟩ | ⟨hx, hx'⟩ | hx
  all_goals
    go_enter Tryd.func9, Tryd.ntmps9
    go_wp2
    all_goals go_ret2
    all_goals refine ⟨?_, rfl⟩
    all_goals unfold fitsN
    all_goals simp (discharger := omega) only [if_pos, if_neg, decide_eq_true, decide_eq_false, Bool.true_and, Bool.false_and]
    all_goals rfl
/-- A decimal digit. -/
def dig (k : Int) : UInt8 := UInt8.ofNat (48 + k).toNat
theorem dig_toNat {k : Int} (h1 : 0 ≤ k) (h2 : k < 10) : ((dig k).toNat : Int) = 48 + k := by
  unfold dig
  rw [UInt8.toNat_ofNat', Nat.mod_eq_of_lt (by omega)]
  omega
/-- The digits of a number of 100 to 999. -/
def digitsL (n : Int) : List UInt8 := [dig (n / 100), dig (n / 10 % 10), dig (n % 10)]
theorem RB.three (w : World) (x y z : UInt8) (a b c : Int) (ha : a = x.toNat) (hb : b = y.toNat) (hc : c = z.toNat) (t : TypeId) :
    RB (w.alloc (.cells #[.int .u8 a, .int .u8 b, .int .u8 c] t)) (some ⟨w.heap.size, 0, none⟩) [x, y, z] := by
  subst ha; subst hb; subst hc
  intro _
  refine ⟨_, _, rfl, fun i u hu => ?_⟩
  refine (World.cell?_alloc_mark w _ t (0, 0) (0 + i)).trans ?_
  rcases i with _ | _ | _ | i
  · simp at hu; subst hu; rfl
  · simp at hu; subst hu; rfl
  · simp at hu; subst hu; rfl
  · simp at hu
theorem specDigits_any (n : Int) (h1 : 100 ≤ n) (h2 : n ≤ 999) (w : World) :
    Calls Tryd.prog 16 #[.int .i64 n] w fun e w' => e = .returned (.string ⟨(digitsL n).toArray⟩) ∧ Below w.heap.size w w' := by
  have hr := RB.three w (dig (n / 100)) (dig (n / 10 % 10)) (dig (n % 10)) _ _ _ (dig_toNat (by omega) (by omega)).symm (dig_toNat (by omega) (by omega)).symm (dig_toNat (by omega) (by omega)).symm 5
  go_enter Tryd.func16, Tryd.ntmps16
  go_wp2_with (with_reducible refine at_toString ?_; refine wpList_toString rfl (.tmp 16) rfl _ 3 3 [_, _, _] rfl rfl hr ?_)
  go_ret
  exact ⟨rfl, (Below.refl _ _).alloc (Nat.le_refl _) _⟩

theorem specCoded_short (l : List UInt8) (hl : l.length < 4) (w : World) :
    Calls Tryd.prog 15 #[.string ⟨l.toArray⟩] w fun e w' => e = .returned (.bool false) ∧ w = w' := by
  go_enter Tryd.func15, Tryd.ntmps15
  go_wp2
  all_goals go_ret
  all_goals exact ⟨rfl, rfl⟩
theorem specCoded_sep (a b c d : UInt8) (m : List UInt8) (h1 : ((d.toNat : Int) != 32) = true) (h2 : ((d.toNat : Int) != 45) = true) (hl : m.length + 4 ≤ 9223372036854775807) (w : World) :
    Calls Tryd.prog 15 #[.string ⟨(a :: b :: c :: d :: m).toArray⟩] w fun e w' => e = .returned (.bool false) ∧ w = w' := by
  go_enter Tryd.func15, Tryd.ntmps15
  go_wp2
  all_goals go_ret
  all_goals exact ⟨rfl, rfl⟩
def digB (a : UInt8) : Bool := decide (48 ≤ a.toNat ∧ a.toNat ≤ 57)
theorem digB_no {a : UInt8} (h : (a.toNat : Int) < 48 ∨ 57 < (a.toNat : Int)) : digB a = false := by unfold digB; rw [decide_eq_false_iff_not]; omega
theorem digB_yes {a : UInt8} (h : 48 ≤ (a.toNat : Int)) (h' : (a.toNat : Int) ≤ 57) : digB a = true := by unfold digB; rw [decide_eq_true_eq]; omega
theorem specCoded_digits (a b c d : UInt8) (m : List UInt8) (hd : d = 32 ∨ d = 45) (hl : m.length + 4 ≤ 9223372036854775807) (w : World) :
    Calls Tryd.prog 15 #[.string ⟨(a :: b :: c :: d :: m).toArray⟩] w fun e w' => e = .returned (.bool ((digB a && digB b && digB c) && ((a.toNat : Int) != 48))) ∧ w = w' := by
  rcases hd with rfl | rfl
  all_goals
    go_enter Tryd.func15, Tryd.ntmps15
    go_wp2
    go_loop [3] (fun i => ∃ k : Nat, k ≤ 3 ∧ i = .int .i64 k ∧ (0 < k → digB a = true) ∧ (1 < k → digB b = true) ∧ (2 < k → digB c = true)) (fun i => 3 - (intOf i).toNat)
    case atStart => exact ⟨0, by omega, rfl, by omega, by omega, by omega⟩
    case round =>
      obtain ⟨k, hk, rfl, h0, h1, h2⟩ := hrel
      rcases k with _ | _ | _ | k
      · go_wp2
        all_goals first
          | (go_ret; exact ⟨ret_bool (by rw [digB_no (by omega)]; rfl), rfl⟩)
          | (go_round
             case rel => exact ⟨1, by omega, rfl, fun _ => digB_yes (by omega) (by omega), by omega, by omega⟩
             case measure => simp [intOf])
      · go_wp2
        all_goals first
          | (go_ret; exact ⟨ret_bool (by rw [digB_no (a := b) (by omega)]; simp), rfl⟩)
          | (go_round
             case rel => exact ⟨2, by omega, rfl, fun _ => h0 (by omega), fun _ => digB_yes (by omega) (by omega), by omega⟩
             case measure => simp [intOf])
      · go_wp2
        all_goals first
          | (go_ret; exact ⟨ret_bool (by rw [digB_no (a := c) (by omega)]; simp), rfl⟩)
          | (go_round
             case rel => exact ⟨3, by omega, rfl, fun _ => h0 (by omega), fun _ => h1 (by omega), fun _ => digB_yes (by omega) (by omega)⟩
             case measure => simp [intOf])
      · obtain rfl : k = 0 := by omega
        go_wp2
        go_ret
        exact ⟨ret_bool (by first | rfl | (rw [h0 (by omega), h1 (by omega), h2 (by omega)]; rfl)), rfl⟩
/-- The reference's Coded, of every line. -/
def codedL : List UInt8 → Bool
  | a :: b :: c :: d :: _ => decide (d = 32 ∨ d = 45) && ((digB a && digB b && digB c) && ((a.toNat : Int) != 48))
  | _ => false
theorem specCoded_any (l : List UInt8) (hl : l.length ≤ 9223372036854775807) (w : World) :
    Calls Tryd.prog 15 #[.string ⟨l.toArray⟩] w fun e w' => e = .returned (.bool (codedL l)) ∧ w = w' := by
  rcases l with _ | ⟨a, _ | ⟨b, _ | ⟨c, _ | ⟨d, m⟩⟩⟩⟩
  case cons.cons.cons.cons =>
    by_cases hd : d = 32 ∨ d = 45
    · refine (specCoded_digits a b c d m hd (by simpa using hl) w).mono fun e w' ⟨he, hb⟩ => ⟨?_, hb⟩
      rw [he]; simp [codedL, hd]
    · have hn : ∀ k : UInt8, d ≠ k → ((d.toNat : Int) != k.toNat) = true := fun k hk => by
        rw [bne_iff_ne]; exact fun e => hk ((byte_eq_iff d k).1 e)
      refine (specCoded_sep a b c d m (hn 32 (fun e => hd (.inl e))) (hn 45 (fun e => hd (.inr e))) (by simpa using hl) w).mono fun e w' ⟨he, hb⟩ => ⟨?_, hb⟩
      rw [he]; simp [codedL, hd]
  all_goals exact specCoded_short _ (by simp) w
end Go.Proofs.YtfnkkjehkegpgaaDoor
