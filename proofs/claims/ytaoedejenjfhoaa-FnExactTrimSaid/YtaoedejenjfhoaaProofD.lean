/- FnExactTrim: for every string TrimString and TrimBytes give what the reference gives: spaces, tabs, CR and LF at both ends are left out. Conditions: none. -/
import Derived.Test.YtaoedejenjfhoaaFrame
import Derived.Test.YtaoedejenjfhoaaTrimLaw
namespace Go.Proofs.Ytaoedejenjfhoaa
open Go.ChangeShapes Go.WideShapes Go.ChangeAt Go.RowKit
open Go.ChangeMaps (open_string)

set_option maxRecDepth 100000 in
theorem trim_lifted (os : Os) (started : os.Started) (H : Type) (enc : TypeId × Value → H) :
    ReturnsInHanded {} Try.checked os 4 .any (Rows.fnExactTrimSpec.pre6 enc Try.prog Try.f4 Rows.fnExactTrimRow.domain false) (Rows.fnExactTrimSpec.post enc Try.prog Try.f4 false true false false) := by
  refine returnsInHanded_of_change (C := Try.checked) Try.own started (by kernel_rfl) Try.func4
    (ChangeSpec.witness6 (enc := enc) (C := Try.checked) false ⟨#[], #[.string ⟨#[]⟩], []⟩ 8 (by kernel_rfl) (by kernel_rfl) (by kernel_rfl) (by kernel_rfl)) ?_
  intro W base args ds gs before hval0 hW hcnd _
  have hval : ∀ (j : Nat) t v, Try.f4.params[j]? = some t → args[j]? = some v → Value.okWide Try.prog W .any base t v := hval0
  have hW' := hW
  obtain ⟨p, q, hA0, hV, rfl, hfz, hnd⟩ := hW
  have hA : DataW.TrodAll enc Try.prog W 0 (fun _ => true) true Try.f4.params.toList args.toList ds p := hA0
  rw [Try.params4] at hA hval
  obtain ⟨v0, d0, rfl, rfl, h0⟩ := trodAll_one hA
  obtain ⟨rfl, rfl⟩ := trodVars_none hV
  obtain ⟨s, rfl, rfl, rfl, ws⟩ := open_string Try.underlying9 (hval 0 9 v0 rfl rfl) h0
  have hs : s.data.toList.length ≤ 9223372036854775807 := by
    have h1 : s.data.toList.length = s.size := by simp
    unfold maxLen at ws; omega
  have walk := lawTrim s.data.toList hs W
  rw [← mk_of s] at walk
  refine walk.mono fun e W' ⟨he, hw⟩ => ?_
  subst he
  exact ⟨_, rfl, law_post Try.laidOut rfl (by kernel_rfl) rfl Try.underlying4 rfl hW' hw⟩

theorem trim_holds : Rows.FnExactTrimSaid :=
  OpenClaim.holds_of_wide 4 Try.f4 rfl rfl rfl rfl rfl rfl rfl ⟨rfl, rfl, rfl, rfl, rfl⟩ rfl rfl rfl rfl rfl (by kernel_rfl) Try.func4 (by kernel_rfl)
    (of_decide_eq_true (by kernel_rfl)) (by unfold Func.isWrapper; first | (rw [if_pos (by decide +kernel)]; kernel_rfl) | (rw [if_neg (by decide +kernel)]; exact ⟨rfl, rfl⟩))
    (fun os started H enc _ => trim_lifted os started H enc)
end Go.Proofs.Ytaoedejenjfhoaa
