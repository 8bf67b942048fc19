/- The law's walk: impl.Run and the reference's Run give the same. -/
import Derived.Test.YtaoedejenjfhoaaRunQ
import Derived.Test.YtaoedejenjfhoaaFitS
import Derived.Test.YtaoedejenjfhoaaSlF
namespace Go.Proofs.Ytaoedejenjfhoaa
open Go.RowKit Go.Maps

theorem OV.vr {w : World} {base : Nat} {A : Option Addr} {n c : Nat} {vs : List Value} (h : OV w base (.slice A n c) vs) : VR w A vs := by
  obtain ⟨A', c', e, _, _, hv⟩ := h.form
  injection e with e
  subst e
  exact hv
theorem stepM_rows (s : Hdr × List (List (List UInt8))) (t : StepR) (m : Nat) (h : ∀ l ∈ s.2, l.length ≤ m) (hf : ∀ c, (s.1 c).length ≤ m) (h1 : 1 ≤ m) : ∀ l ∈ (stepM s t).2, l.length ≤ m := by
  unfold stepM
  repeat' split
  · exact h
  · exact h
  · exact h
  · intro l hl
    rcases List.mem_append.1 hl with hl | hl
    · exact h l hl
    · simp at hl; subst hl; simpa using h1
  · intro l hl
    rcases List.mem_append.1 hl with hl | hl
    · exact h l hl
    · simp at hl; subst hl; exact hf _
  · exact h
theorem runM_rows (ts : List StepR) (k : Nat) (h : k ≤ ts.length) : ∀ l ∈ (runM (ts.take k)).2, l.length ≤ k + 1 := by
  induction k with
  | zero => intro l hl; simp [runM] at hl
  | succ k ih =>
    rw [runM_snoc ts k h]
    exact stepM_rows _ _ _ (fun l hl => Nat.le_succ_of_le (ih (by omega) l hl)) (fun c => Nat.le_trans (runM_small ts k (by omega) c) (by omega)) (by omega)
theorem runM_rowsAll (ts : List StepR) : (runM ts).2.length ≤ ts.length ∧ ∀ l ∈ (runM ts).2, l.length ≤ ts.length + 1 := by
  have h1 := runM_rows ts ts.length (Nat.le_refl _)
  have h2 := runM_len ts ts.length (Nat.le_refl _)
  rw [List.take_of_length_le (Nat.le_refl _)] at h1 h2
  exact ⟨h2, h1⟩
set_option maxRecDepth 200000 in
theorem lawRun (A : Option Addr) (n c : Nat) (ts : List StepR) (hn : n = ts.length) (hl : ∀ t ∈ ts, t.len) (hm : ts.length ≤ 9223372036854775807) (w : World) (hr : TL w A ts) :
    Calls Try.prog 7 #[.slice A n c] w fun e w' => e = .returned (.bool true) ∧ Below w.heap.size w w' := by
  subst hn
  have hz := zzFits9_any (c := c) hr rfl hl hm
  obtain ⟨b1, hb1⟩ : ∃ b1, b1 = (decide (ts.length ≤ 2147483647) && ts.all fits10) := ⟨_, rfl⟩
  rw [← hb1] at hz
  have HF := Lib.hid hz
  clear hz
  cases b1
  · clear hr hl hm hb1
    go_enter Try.func7, Try.ntmps7
    go_wp2_with (go_at_call 17; refine HF.out.mono ?_; rintro e w1 ⟨rfl, hb⟩; have HB := Lib.hid hb; clear hb)
    go_ret
    exact ⟨rfl, HB.out⟩
  have hm2 : ts.length ≤ 2147483647 := by
    have h1 := hb1.symm
    simp only [Bool.and_eq_true, decide_eq_true_eq] at h1
    exact h1.1
  obtain ⟨hR1, hR2⟩ := runM_rowsAll ts
  have HI := Lib.hid (fun w1 (h : Below w.heap.size w w1) => implRun_any (c := c) (hr.below h) rfl (fun t ht => (hl t ht).2.1) (by omega))
  have HS := Lib.hid (fun w1 (h : Below w.heap.size w w1) => specRun_any (c := c) (hr.below h) rfl (fun t ht => (hl t ht).2.1) (by omega))
  have HL := Lib.hid (show (runM ts).2.length ≤ 3000000000 ∧ ∀ l ∈ (runM ts).2, l.length ≤ 3000000000 from ⟨by omega, fun l h => by have := hR2 l h; omega⟩)
  clear hr hl hm hm2 hb1 hR1 hR2
  go_enter Try.func7, Try.ntmps7
  go_wp2_with (first
    | (go_at_call 17; refine HF.out.mono ?_; rintro e w1 ⟨rfl, hb1⟩; have H1 := Lib.hid hb1; clear hb1)
    | (go_at_call 19; refine (HI.out _ H1.out).mono ?_; rintro e w2 ⟨⟨N1, vs, A1, c1, rfl, ho1⟩, hb2⟩; have H2 := Lib.hid (And.intro ho1 (H1.out.trans (hb2.mono H1.out.size))); clear ho1 hb2)
    | (go_at_call 20; refine (HS.out _ H2.out.2).mono ?_; rintro e w3 ⟨⟨N2, us, A2, c2, rfl, ho2⟩, hb3⟩; have H3 := Lib.hid (And.intro ho2 (And.intro hb3 (H2.out.2.trans (hb3.mono H2.out.2.size)))); clear ho2 hb3)
    | (go_at_call 18
       refine (equalRows_same (H2.out.1.rows.1) (H3.out.1.rows.1) ((H2.out.1.of (fun g hg hl => ⟨H3.out.2.1.block g hl, hg⟩)).own.vr) H3.out.1.own.vr ((H2.out.1.of (fun g hg hl => ⟨H3.out.2.1.block g hl, hg⟩)).rows) H3.out.1.rows HL.out.1 HL.out.2).mono ?_
       rintro e w4 ⟨rfl, hb4⟩; have H4 := Lib.hid hb4; clear hb4))
  go_ret
  exact ⟨rfl, H3.out.2.2.trans (H4.out.mono H3.out.2.2.size)⟩
end Go.Proofs.Ytaoedejenjfhoaa
