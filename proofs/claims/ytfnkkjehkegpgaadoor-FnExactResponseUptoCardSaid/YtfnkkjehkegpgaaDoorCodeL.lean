/- The walks of readCodeLine and ReadCodeLine, where the stream begins with a line. -/
import Derived.Test.YtfnkkjehkegpgaaDoorRdI
import Derived.Test.YtfnkkjehkegpgaaDoorCodeC
namespace Go.Proofs.YtfnkkjehkegpgaaDoor
open Go.RowKit

theorem Chg.mono {S T : Nat → Prop} {a b : World} (h : Chg S a b) (hs : ∀ k, S k → T k) : Chg T a b := h.sub fun k _ => hs k
theorem readCodeLine_line {K : Und} (hK : FillOK K) {base t p bb : Nat} {E : Nat → Addr} {gs : List Nat} {w : World} {S a rest : List UInt8} {buf : Value} (h : Tp K base E gs t p bb buf w S) (hg : 0 ∈ gs) (hf : 4 ∈ gs) (hx : 5 ∈ gs) (hS : S.length ≤ 140737488355328)
    (hSe : S = a ++ 10 :: rest) (ha : 10 ∉ a) (x : Int) :
    Calls Tryd.prog 29 #[.pointer (some ⟨t, 0, none⟩), .int .i64 x] w fun e w' => RetCode E gs (parseL x (dropCR a)) e ∧ Tp K base E gs t p bb buf w' rest ∧ Chg (Rd.S K p bb) w w' := by
  have hl : (dropCR a).length ≤ 9223372036854775807 := by have := dropCR_le a; rw [hSe] at hS; simp at hS; omega
  have hrl := tReadLine_line hK h hg hf hS hSe ha
  generalize dropCR a = l at hl hrl ⊢
  have H := Lib.hid hrl
  clear hrl h hSe
  go_enter Tryd.func29, Tryd.ntmps29
  go_wp2_with (first
    | (go_at_call 31; refine H.out.mono ?_; rintro e w1 ⟨rfl, hT1, hC1⟩; have H1 := Lib.hid (And.intro hT1 hC1); clear hT1 hC1)
    | (go_at_call 32; refine (parse_any E gs l x hl _ H1.out.1.sens.s hx).mono ?_; rintro e w2 ⟨⟨er, hin, hnum, rfl⟩, hb2⟩; have H2 := Lib.hid (And.intro hin (And.intro hnum hb2)); clear hin hnum hb2))
  ((try simp only [Exit.inBlock, Exit.then]); refine bodyPost_ret (results_tmp4 rfl _ _ _) rfl ?_)
  obtain ⟨hin, hnum, hb2⟩ := H2.out
  exact ⟨⟨er, hin, hnum, rfl⟩, H1.out.1.below hb2, H1.out.2.of_below hb2 (fun k hk _ => Nat.lt_of_lt_of_le hk H1.out.2.size)⟩
/-- What ReadCodeLine gives of a line: the code, the message, the kind of the error. -/
def oneL (r : Int × Bool × List UInt8 × Int) : Int × List UInt8 × Int := (r.1, r.2.2.1, if r.2.2.2 = 0 ∧ r.2.1 = true then 3 else r.2.2.2)
def RetOne (E : Nat → Addr) (gs : List Nat) (r : Int × List UInt8 × Int) (e : Ending) : Prop :=
  ∃ er : Er, er.in gs ∧ er.num = r.2.2 ∧ e = .returned (.tuple #[.int .i64 r.1, .string ⟨r.2.1.toArray⟩, er.val E])
theorem Er.zero {er : Er} (h : er.num = 0) : er = .nil := by
  cases er with
  | nil => rfl
  | sent g =>
    exfalso
    have hn : (Er.sent g).num = if g = 0 then 1 else if g = 1 then 2 else 5 := rfl
    rw [hn] at h
    by_cases h1 : g = 0
    · rw [if_pos h1] at h; cases h
    · by_cases h2 : g = 1
      · rw [if_neg h1, if_pos h2] at h; cases h
      · rw [if_neg h1, if_neg h2] at h; cases h
  | proto s => cases h
  | stat a => cases h
theorem readCodeLineT {K : Und} (hK : FillOK K) {base t p bb : Nat} {E : Nat → Addr} {gs : List Nat} {w : World} {S a rest : List UInt8} {buf : Value} (h : Tp K base E gs t p bb buf w S) (hg : 0 ∈ gs) (hf : 4 ∈ gs) (hx : 5 ∈ gs) (hS : S.length ≤ 140737488355328)
    (hSe : S = a ++ 10 :: rest) (ha : 10 ∉ a) (x : Int) :
    Calls Tryd.prog 25 #[.pointer (some ⟨t, 0, none⟩), .int .i64 x] w fun e w' => RetOne E gs (oneL (parseL x (dropCR a))) e ∧ Tp K base E gs t p bb buf w' rest ∧ Chg (Rd.S K p bb) w w' := by
  have hrl := readCodeLine_line hK h hg hf hx hS hSe ha x
  generalize parseL x (dropCR a) = r at hrl ⊢
  obtain ⟨n, more, m, k⟩ := r
  have H := Lib.hid hrl
  clear hrl h hSe
  cases more
  all_goals
    go_enter Tryd.func25, Tryd.ntmps25
    go_wp2_with (go_at_call 29; refine H.out.mono ?_; rintro e w1 ⟨⟨er, hin, hnum, rfl⟩, hT1, hC1⟩; have H1 := Lib.hid (And.intro hin (And.intro hnum (And.intro hT1 hC1))); clear hin hnum hT1 hC1; cases er <;> refine Hid.out ?_)
    all_goals
      refine Lib.hid ?_
      simp only [Er.val]
      go_wp2
      go_ret3
      obtain ⟨hin, hnum, hT1, hC1⟩ := H1.out
      refine ⟨?_, hT1, hC1⟩
      have hk : Er.num _ = k := hnum
      first
        | (refine ⟨_, hin, ?_, rfl⟩; show Er.num _ = if k = 0 ∧ false = true then (3 : Int) else k; rw [if_neg (by simp)]; exact hk)
        | (refine ⟨.proto _, trivial, ?_, rfl⟩; show (3 : Int) = if k = 0 ∧ true = true then (3 : Int) else k; rw [if_pos (show k = 0 ∧ true = true from ⟨hk.symm, rfl⟩)])
        | (refine ⟨_, hin, ?_, rfl⟩; show Er.num _ = if k = 0 ∧ true = true then (3 : Int) else k; rw [if_neg (fun h => by have := Er.zero (hk.trans h.1); cases this)]; exact hk)
end Go.Proofs.YtfnkkjehkegpgaaDoor
