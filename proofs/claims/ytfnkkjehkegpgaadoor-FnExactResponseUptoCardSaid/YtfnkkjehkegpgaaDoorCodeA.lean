/- parseCodeLine: a line's code, whether there is more behind it, and its message, in plain Lean, and the walk of the code that reads them. -/
import Derived.Test.YtfnkkjehkegpgaaDoorErrs
import Derived.Test.YtfnkkjehkegpgaaDoorShelf
import Derived.Lib.ConvBytes
namespace Go.Proofs.YtfnkkjehkegpgaaDoor
open Go.RowKit

/-- The digits that are expected are those of the code. -/
def fitsN (n e : Int) : Bool := if e < 1 then true else if e < 10 then n / 100 == e else if e < 100 then n / 10 == e else if e < 1000 then n == e else true
/-- The kind of the error of a code that is read: 0 none, 4 of the status. -/
def codeErr (n e : Int) : Int := if fitsN n e then 0 else 4
/-- What parseCodeLine gives of a line: the code, whether there is more, the message, and the kind of the error: 0 none, 3 of the protocol, 4 of the status. -/
def parseL (e : Int) : List UInt8 → Int × Bool × List UInt8 × Int
  | a :: b :: c :: d :: m =>
    if d = 32 ∨ d = 45 then
      (match Lib.atoi [a, b, c] with
      | none => (0, d == 45, [], 3)
      | some n => if n < 100 then (n, d == 45, [], 3) else (n, d == 45, m, codeErr n e))
    else (0, false, [], 3)
  | _ => (0, false, [], 3)

/-- What comes back of a line. -/
def RetCode (E : Nat → Addr) (gs : List Nat) (r : Int × Bool × List UInt8 × Int) (e : Ending) : Prop :=
  ∃ er : Er, er.in gs ∧ er.num = r.2.2.2 ∧ e = .returned (.tuple #[.int .i64 r.1, .bool r.2.1, .string ⟨r.2.2.1.toArray⟩, er.val E])

theorem atoi3_le {a b c : UInt8} {n : Int} (h : Lib.atoi [a, b, c] = some n) : -99 ≤ n ∧ n ≤ 999 := by
  have hd : ∀ (x : UInt8) k, Lib.digitVal x = some k → k ≤ 9 := fun x k h => by
    unfold Lib.digitVal at h
    split at h
    · injection h with h; omega
    · cases h
  have h2 : ∀ (x y : UInt8) (k : Nat), Lib.decNat [x, y] = some k → k ≤ 99 := fun x y k h => by
    simp only [Lib.decNat, Lib.decFrom, List.isEmpty_cons, Bool.false_eq_true, if_false] at h
    cases hx : Lib.digitVal x with
    | none => simp [hx] at h
    | some p =>
      cases hy : Lib.digitVal y with
      | none => simp [hx, hy] at h
      | some q => simp [hx, hy] at h; have := hd x p hx; have := hd y q hy; omega
  have h3 : ∀ (x y z : UInt8) (k : Nat), Lib.decNat [x, y, z] = some k → k ≤ 999 := fun x y z k h => by
    simp only [Lib.decNat, Lib.decFrom, List.isEmpty_cons, Bool.false_eq_true, if_false] at h
    cases hx : Lib.digitVal x with
    | none => simp [hx] at h
    | some p =>
      cases hy : Lib.digitVal y with
      | none => simp [hx, hy] at h
      | some q =>
        cases hz : Lib.digitVal z with
        | none => simp [hx, hy, hz] at h
        | some r => simp [hx, hy, hz] at h; have := hd x p hx; have := hd y q hy; have := hd z r hz; omega
  simp only [Lib.atoi] at h
  split at h
  · obtain ⟨k, hk, rfl⟩ := Option.map_eq_some_iff.1 h
    have := h2 _ _ _ hk; omega
  · split at h
    · obtain ⟨k, hk, rfl⟩ := Option.map_eq_some_iff.1 h
      have := h2 _ _ _ hk; omega
    · obtain ⟨k, hk, rfl⟩ := Option.map_eq_some_iff.1 h
      have := h3 _ _ _ _ hk; omega

theorem atoi_yes (l : List UInt8) (n : Int) (hl : l.length ≤ 18) (h : Lib.atoi l = some n) (w : World) :
    Calls Tryd.prog 40 #[.string ⟨l.toArray⟩] w fun e w' => e = .returned (.tuple #[.int .i64 n, .nilIface]) ∧ Below w.heap.size w w' :=
  (Tryd.strconv_Atoi ⟨l.toArray⟩ n hl h w).mono fun e w' ⟨h1, t, h2⟩ => ⟨h1, by subst h2; exact Lib.bytesWorld_below _ _ _⟩
theorem atoi_no {E : Nat → Addr} {gs : List Nat} (l : List UInt8) (hl : l.length ≤ 18) (h : Lib.atoi l = none) (w : World) (hs : Sens w E gs) (hg : 5 ∈ gs) :
    Calls Tryd.prog 40 #[.string ⟨l.toArray⟩] w fun e w' => ∃ N, e = .returned (.tuple #[.int .i64 0, .iface 101 (.pointer (some ⟨N, 0, none⟩))]) ∧ Below w.heap.size w w' :=
  (Tryd.strconv_Atoi_err ⟨l.toArray⟩ hl h (.iface 118 (.pointer (some (E 5)))) w (hs.sen _ hg).cell (.inr ⟨_, _, rfl⟩)).mono fun e w' h => by
    obtain ⟨N, h1, h2, h3, h4⟩ := h
    exact ⟨N, h1, h4⟩

theorem parse_short (l : List UInt8) (x : Int) (hl : l.length < 4) (w : World) :
    Calls Tryd.prog 32 #[.string ⟨l.toArray⟩, .int .i64 x] w fun e w' => (∃ s, e = .returned (.tuple #[.int .i64 0, .bool false, .string ⟨#[]⟩, .iface 73 (.string s)])) ∧ Below w.heap.size w w' := by
  go_enter Tryd.func32, Tryd.ntmps32
  go_wp2
  all_goals ((try simp only [Exit.inBlock, Exit.then]); refine bodyPost_ret (results_tmp4 rfl _ _ _) rfl ?_)
  all_goals exact ⟨⟨_, rfl⟩, Below.refl _ _⟩
theorem parse_sep (a b c d : UInt8) (m : List UInt8) (x : Int) (h1 : ((d.toNat : Int) != 32) = true) (h2 : ((d.toNat : Int) != 45) = true) (hl : m.length + 4 ≤ 9223372036854775807) (w : World) :
    Calls Tryd.prog 32 #[.string ⟨(a :: b :: c :: d :: m).toArray⟩, .int .i64 x] w fun e w' => (∃ s, e = .returned (.tuple #[.int .i64 0, .bool false, .string ⟨#[]⟩, .iface 73 (.string s)])) ∧ Below w.heap.size w w' := by
  go_enter Tryd.func32, Tryd.ntmps32
  go_wp2
  all_goals ((try simp only [Exit.inBlock, Exit.then]); refine bodyPost_ret (results_tmp4 rfl _ _ _) rfl ?_)
  all_goals exact ⟨⟨_, rfl⟩, Below.refl _ _⟩
theorem parse_bad {E : Nat → Addr} {gs : List Nat} (a b c d : UInt8) (m : List UInt8) (x : Int) (hd : d = 32 ∨ d = 45) (hl : m.length + 4 ≤ 9223372036854775807)
    (h : Lib.atoi [a, b, c] = none) (w : World) (hs : Sens w E gs) (hg : 5 ∈ gs) :
    Calls Tryd.prog 32 #[.string ⟨(a :: b :: c :: d :: m).toArray⟩, .int .i64 x] w fun e w' => (∃ s, e = .returned (.tuple #[.int .i64 0, .bool (d == 45), .string ⟨#[]⟩, .iface 73 (.string s)])) ∧ Below w.heap.size w w' := by
  rcases hd with rfl | rfl
  all_goals
    go_enter Tryd.func32, Tryd.ntmps32
    go_wp2_with (go_at_call 40; refine (atoi_no [a, b, c] (by simp) h _ hs hg).mono ?_; rintro e w1 ⟨N, rfl, hb⟩)
    ((try simp only [Exit.inBlock, Exit.then]); refine bodyPost_ret (results_tmp4 rfl _ _ _) rfl ?_)
    exact ⟨⟨_, rfl⟩, hb⟩
theorem parse_low (a b c d : UInt8) (m : List UInt8) (x : Int) (hd : d = 32 ∨ d = 45) (hl : m.length + 4 ≤ 9223372036854775807) (n : Int)
    (h : Lib.atoi [a, b, c] = some n) (h1 : n < 100) (w : World) :
    Calls Tryd.prog 32 #[.string ⟨(a :: b :: c :: d :: m).toArray⟩, .int .i64 x] w fun e w' => (∃ s, e = .returned (.tuple #[.int .i64 n, .bool (d == 45), .string ⟨#[]⟩, .iface 73 (.string s)])) ∧ Below w.heap.size w w' := by
  rcases hd with rfl | rfl
  all_goals
    go_enter Tryd.func32, Tryd.ntmps32
    go_wp2_with (go_at_call 40; refine (atoi_yes [a, b, c] n (by simp) h _).mono ?_; rintro e w1 ⟨rfl, hb⟩)
    ((try simp only [Exit.inBlock, Exit.then]); refine bodyPost_ret (results_tmp4 rfl _ _ _) rfl ?_)
    exact ⟨⟨_, rfl⟩, hb⟩
theorem fits_yes {n x : Int} (h : ¬ (1 ≤ x ∧ x < 10 ∧ n / 100 ≠ x ∨ 10 ≤ x ∧ x < 100 ∧ n / 10 ≠ x ∨ 100 ≤ x ∧ x < 1000 ∧ n ≠ x)) : fitsN n x = true := by
  unfold fitsN
  repeat' split
  all_goals first | rfl | (rw [beq_iff_eq]; omega)
theorem fits_no {n x : Int} (h : 1 ≤ x ∧ x < 10 ∧ n / 100 ≠ x ∨ 10 ≤ x ∧ x < 100 ∧ n / 10 ≠ x ∨ 100 ≤ x ∧ x < 1000 ∧ n ≠ x) : fitsN n x = false := by
  unfold fitsN
  repeat' split
  all_goals first | omega | (rw [beq_eq_false_iff_ne]; omega)
theorem codeErr_yes {n x : Int} (h : ¬ (1 ≤ x ∧ x < 10 ∧ n / 100 ≠ x ∨ 10 ≤ x ∧ x < 100 ∧ n / 10 ≠ x ∨ 100 ≤ x ∧ x < 1000 ∧ n ≠ x)) : 0 = codeErr n x := by unfold codeErr; rw [fits_yes h]; rfl
theorem codeErr_no {n x : Int} (h : 1 ≤ x ∧ x < 10 ∧ n / 100 ≠ x ∨ 10 ≤ x ∧ x < 100 ∧ n / 10 ≠ x ∨ 100 ≤ x ∧ x < 1000 ∧ n ≠ x) : 4 = codeErr n x := by unfold codeErr; rw [fits_no h]; rfl
theorem parse_ne (E : Nat → Addr) (gs : List Nat) (a b c d : UInt8) (m : List UInt8) (x : Int) (hd : d = 32 ∨ d = 45) (hl : m.length + 4 ≤ 9223372036854775807) (n : Int)
    (h : Lib.atoi [a, b, c] = some n) (h1 : 100 ≤ n) (h2 : n ≤ 999) (w : World) (hx : 100 ≤ x) (hx' : x < 1000) (hne : ¬ n = x) :
    Calls Tryd.prog 32 #[.string ⟨(a :: b :: c :: d :: m).toArray⟩, .int .i64 x] w fun e w' => RetCode E gs (n, d == 45, m, codeErr n x) e ∧ Below w.heap.size w w' := by
  have hne' : (n != x) = true := by rw [bne_iff_ne]; exact hne
  rcases hd with rfl | rfl
  all_goals
    go_enter Tryd.func32, Tryd.ntmps32
    go_wp2_with (go_at_call 40; refine (atoi_yes [a, b, c] n (by simp) h _).mono ?_; rintro e w1 ⟨rfl, hb⟩)
    all_goals ((try simp only [Exit.inBlock, Exit.then]); refine bodyPost_ret (results_tmp4 rfl _ _ _) rfl ?_)
    all_goals exact ⟨⟨.stat _, trivial, codeErr_no (by omega), rfl⟩, hb.alloc hb.size _⟩
set_option maxHeartbeats 1600000 in
theorem parse_ok (E : Nat → Addr) (gs : List Nat) (a b c d : UInt8) (m : List UInt8) (x : Int) (hd : d = 32 ∨ d = 45) (hl : m.length + 4 ≤ 9223372036854775807) (n : Int)
    (h : Lib.atoi [a, b, c] = some n) (h1 : 100 ≤ n) (h2 : n ≤ 999) (w : World) :
    Calls Tryd.prog 32 #[.string ⟨(a :: b :: c :: d :: m).toArray⟩, .int .i64 x] w fun e w' => RetCode E gs (n, d == 45, m, codeErr n x) e ∧ Below w.heap.size w w' := by
  have hq : 0 ≤ n / 100 := by omega
  have hr : 0 ≤ n / 10 := by omega
  by_cases hne : 100 ≤ x ∧ x < 1000 ∧ ¬ n = x
  · exact parse_ne E gs a b c d m x hd hl n h h1 h2 w hne.1 hne.2.1 hne.2.2
  rcases hd with rfl | rfl <;>
    rcases (show x < 1 ∨ (1 ≤ x ∧ x < 10) ∨ (10 ≤ x ∧ x < 100) ∨ (100 ≤ x ∧ x < 1000 ∧ n = x) ∨ 1000 ≤ x by omega) with hx | ⟨hx, hx'⟩ | ⟨hx, hx'⟩ | ⟨hx, hx', rfl⟩ | hx
  all_goals
    go_enter Tryd.func32, Tryd.ntmps32
    go_wp2_with (go_at_call 40; refine (atoi_yes [a, b, c] n (by simp) h _).mono ?_; rintro e w1 ⟨rfl, hb⟩)
    all_goals ((try simp only [Exit.inBlock, Exit.then]); refine bodyPost_ret (results_tmp4 rfl _ _ _) rfl ?_)
    all_goals first
      | exact ⟨⟨.nil, trivial, codeErr_yes (by omega), rfl⟩, hb⟩
      | exact ⟨⟨.stat _, trivial, codeErr_no (by omega), rfl⟩, hb.alloc hb.size _⟩
/-- parseCodeLine, of every line. -/
theorem parse_any (E : Nat → Addr) (gs : List Nat) (l : List UInt8) (x : Int) (hl : l.length ≤ 9223372036854775807) (w : World) (hs : Sens w E gs) (hg : 5 ∈ gs) :
    Calls Tryd.prog 32 #[.string ⟨l.toArray⟩, .int .i64 x] w fun e w' => RetCode E gs (parseL x l) e ∧ Below w.heap.size w w' := by
  rcases l with _ | ⟨a, _ | ⟨b, _ | ⟨c, _ | ⟨d, m⟩⟩⟩⟩
  case cons.cons.cons.cons =>
    by_cases hd : d = 32 ∨ d = 45
    · cases h : Lib.atoi [a, b, c] with
      | none =>
        refine (parse_bad a b c d m x hd (by simpa using hl) h w hs hg).mono fun e w' ⟨⟨s, he⟩, hb⟩ => ⟨⟨.proto s, trivial, ?_, ?_⟩, hb⟩
        · simp [parseL, hd, h, Er.num]
        · rw [he]; simp [parseL, hd, h, Er.val]
      | some n =>
        by_cases hn : n < 100
        · refine (parse_low a b c d m x hd (by simpa using hl) n h hn w).mono fun e w' ⟨⟨s, he⟩, hb⟩ => ⟨⟨.proto s, trivial, ?_, ?_⟩, hb⟩
          · simp [parseL, hd, h, hn, Er.num]
          · rw [he]; simp [parseL, hd, h, hn, Er.val]
        · have := atoi3_le h
          refine (parse_ok E gs a b c d m x hd (by simpa using hl) n h (by omega) (by omega) w).mono fun e w' ⟨he, hb⟩ => ⟨?_, hb⟩
          have : parseL x (a :: b :: c :: d :: m) = (n, d == 45, m, codeErr n x) := by simp [parseL, hd, h, hn]
          rw [this]; exact he
    · have hn : ∀ k : UInt8, d ≠ k → ((d.toNat : Int) != k.toNat) = true := fun k hk => by
        rw [bne_iff_ne]; exact fun e => hk ((byte_eq_iff d k).1 e)
      refine (parse_sep a b c d m x (hn 32 (fun e => hd (.inl e))) (hn 45 (fun e => hd (.inr e))) (by simpa using hl) w).mono fun e w' ⟨⟨s, he⟩, hb⟩ => ⟨⟨.proto s, trivial, ?_, ?_⟩, hb⟩
      · simp [parseL, hd, Er.num]
      · rw [he]; simp [parseL, hd, Er.val]
  all_goals exact (parse_short _ x (by simp) w).mono fun e w' ⟨⟨s, he⟩, hb⟩ => ⟨⟨.proto s, trivial, rfl, he⟩, hb⟩
end Go.Proofs.YtfnkkjehkegpgaaDoor
