/- FnExactRun: a MIMEHeader is a list of values for each key in canonical form: what Get and Values give in any steps is what the reference gives. Conditions: what is read is of bulk at most 1048576. -/
import Derived.Test.YtaoedejenjfhoaaOpenV
import Derived.Test.YtaoedejenjfhoaaRunT
namespace Go.Proofs.Ytaoedejenjfhoaa
open Go.ChangeShapes Go.WideShapes Go.ChangeAt Go.RowKit

set_option maxRecDepth 100000 in
theorem run_lifted (os : Os) (started : os.Started) (H : Type) (enc : TypeId × Value → H) (F : Stop.Interp) :
    ReturnsInHanded {} Try.checked os 7 .any ((Rows.OpenSpec.upto Rows.fnExactRunSpec).pre6 enc Try.prog Try.f7 Rows.fnExactRunUptoRow.domain false) (((Rows.OpenSpec.upto Rows.fnExactRunSpec).at F).post enc Try.prog Try.f7 false true false false) := by
  obtain ⟨x, hx, hsm⟩ := some_of_small (f := fun x => Rows.uptoSmall H (x.1 ++ x.2.1)) (o := DataW.whole enc Try.prog (World.plainHolding Try.prog os ⟨#[], #[.slice none 0 0], []⟩).memory Try.f7.params.toList Rows.fnExactRunSpec.vars false #[Value.slice none 0 0].toList 8) (by kernel_rfl)
  refine returnsInHanded_of_cond (C := Try.checked) (s := Rows.OpenSpec.upto Rows.fnExactRunSpec) (k := Rows.uptoSmall) rfl Try.own started (by kernel_rfl) Try.func7
    (OpenSpec.witness (enc := enc) (C := Try.checked) (s := Rows.OpenSpec.upto Rows.fnExactRunSpec) (k := Rows.uptoSmall) rfl false ⟨#[], #[.slice none 0 0], []⟩ 8 (by kernel_rfl) (by kernel_rfl) (by kernel_rfl)
      hx rfl hsm) ?_
  intro W base args ds gs before hval0 hW _ hcond _
  have hval : ∀ (j : Nat) t v, Try.f7.params[j]? = some t → args[j]? = some v → Value.okWide Try.prog W .any base t v := hval0
  have hW' := hW
  obtain ⟨p, q, hA0, hV, rfl, hfz, hnd⟩ := hW
  have hA : DataW.TrodAll enc Try.prog W 0 (fun _ => true) true Try.f7.params.toList args.toList ds p := hA0
  rw [Try.params7] at hA hval
  obtain ⟨v0, d0, rfl, rfl, h0⟩ := trodAll_one hA
  obtain ⟨rfl, rfl⟩ := trodVars_none hV
  obtain ⟨A0, n0, c0, l0, rfl, hn0, hr0, hx0, hy0, hw0⟩ := open_stepsV (hval 0 27 v0 rfl rfl) h0
  have hbk0 := Nat.le_trans hw0 (show Rows.uptoBulk d0 ≤ 1048576 by have h := bulk_bound hcond; simp [Rows.uptoBulkAll] at h; omega)
  obtain ⟨hlen, hlens⟩ := wt_le l0 _ hbk0
  have walk := lawRun A0 n0 c0 l0 hn0 hlen hlens W hr0
  refine walk.mono fun e W' ⟨he, hw⟩ => ?_
  subst he
  exact ⟨_, rfl, law_post Try.laidOut rfl (by kernel_rfl) rfl Try.underlying4 rfl hW' hw⟩

theorem run_holds : Rows.FnExactRunUptoSaid :=
  OpenClaim.holds_of_cond 7 Try.f7 rfl rfl rfl rfl rfl rfl rfl ⟨rfl, rfl, rfl, rfl, rfl⟩ rfl rfl rfl rfl rfl (by kernel_rfl) Try.func7 (by kernel_rfl)
    (of_decide_eq_true (by kernel_rfl)) (by unfold Func.isWrapper; first | (rw [if_pos (by decide +kernel)]; kernel_rfl) | (rw [if_neg (by decide +kernel)]; exact ⟨rfl, rfl⟩))
    (fun os started H enc _ F => run_lifted os started H enc F)
end Go.Proofs.Ytaoedejenjfhoaa
