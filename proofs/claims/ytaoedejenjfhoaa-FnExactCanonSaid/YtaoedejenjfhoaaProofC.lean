/- FnExactCanon: for every string CanonicalMIMEHeaderKey gives what the reference gives: a key in canonical form, another text as it stands. Conditions: none. -/
import Derived.Test.YtaoedejenjfhoaaFrame
import Derived.Test.YtaoedejenjfhoaaKeyB
namespace Go.Proofs.Ytaoedejenjfhoaa
open Go.ChangeShapes Go.WideShapes Go.ChangeAt Go.RowKit
open Go.ChangeMaps (open_string)

set_option maxHeartbeats 400000 in
theorem lawCanon (l : List UInt8) (hl : l.length ≤ 9223372036854775807) (w : World) :
    Calls Try.prog 6 #[.string ⟨l.toArray⟩] w fun e w' => e = .returned (.bool true) ∧ Below w.heap.size w w' := by
  go_enter Try.func6, Try.ntmps6
  go_wp2_with (first
    | (go_at_call 27; refine (canonHeader_any l hl _).mono ?_; rintro e w1 ⟨rfl, hb1⟩)
    | (go_at_call 16; refine (specCanon_any l hl _).mono ?_; rintro e w2 ⟨rfl, hb2⟩)
    | go_in)
  all_goals
    go_ret
    first
      | exact ⟨rfl, Below.refl _ _⟩
      | exact ⟨ret_bool (by simp), hb1.trans (hb2.mono hb1.size)⟩

set_option maxRecDepth 100000 in
theorem canon_lifted (os : Os) (started : os.Started) (H : Type) (enc : TypeId × Value → H) :
    ReturnsInHanded {} Try.checked os 6 .any (Rows.fnExactCanonSpec.pre6 enc Try.prog Try.f6 Rows.fnExactCanonRow.domain false) (Rows.fnExactCanonSpec.post enc Try.prog Try.f6 false true false false) := by
  refine returnsInHanded_of_change (C := Try.checked) Try.own started (by kernel_rfl) Try.func6
    (ChangeSpec.witness6 (enc := enc) (C := Try.checked) false ⟨#[], #[.string ⟨#[]⟩], []⟩ 8 (by kernel_rfl) (by kernel_rfl) (by kernel_rfl) (by kernel_rfl)) ?_
  intro W base args ds gs before hval0 hW hcnd _
  have hval : ∀ (j : Nat) t v, Try.f6.params[j]? = some t → args[j]? = some v → Value.okWide Try.prog W .any base t v := hval0
  have hW' := hW
  obtain ⟨p, q, hA0, hV, rfl, hfz, hnd⟩ := hW
  have hA : DataW.TrodAll enc Try.prog W 0 (fun _ => true) true Try.f6.params.toList args.toList ds p := hA0
  rw [Try.params6] at hA hval
  obtain ⟨v0, d0, rfl, rfl, h0⟩ := trodAll_one hA
  obtain ⟨rfl, rfl⟩ := trodVars_none hV
  obtain ⟨s, rfl, rfl, rfl, ws⟩ := open_string Try.underlying9 (hval 0 9 v0 rfl rfl) h0
  have hs : s.data.toList.length ≤ 9223372036854775807 := by
    have h1 : s.data.toList.length = s.size := by simp
    unfold maxLen at ws; omega
  have walk := lawCanon s.data.toList hs W
  rw [← mk_of s] at walk
  refine walk.mono fun e W' ⟨he, hw⟩ => ?_
  subst he
  exact ⟨_, rfl, law_post Try.laidOut rfl (by kernel_rfl) rfl Try.underlying4 rfl hW' hw⟩

theorem canon_holds : Rows.FnExactCanonSaid :=
  OpenClaim.holds_of_wide 6 Try.f6 rfl rfl rfl rfl rfl rfl rfl ⟨rfl, rfl, rfl, rfl, rfl⟩ rfl rfl rfl rfl rfl (by kernel_rfl) Try.func6 (by kernel_rfl)
    (of_decide_eq_true (by kernel_rfl)) (by unfold Func.isWrapper; first | (rw [if_pos (by decide +kernel)]; kernel_rfl) | (rw [if_neg (by decide +kernel)]; exact ⟨rfl, rfl⟩))
    (fun os started H enc _ => canon_lifted os started H enc)
end Go.Proofs.Ytaoedejenjfhoaa
