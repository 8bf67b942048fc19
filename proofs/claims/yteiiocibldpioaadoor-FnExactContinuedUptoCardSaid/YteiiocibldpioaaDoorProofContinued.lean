/- FnExactContinued: a line that goes on in others is these with a space between two of them. Conditions: the package's variables hold what the program's text lays; what is read is of bulk at most 1048576. -/
import Derived.Test.YteiiocibldpioaaDoorFrameD
import Derived.Test.YteiiocibldpioaaDoorContT
import Derived.Test.YteiiocibldpioaaDoorOpenL
namespace Go.Proofs.YteiiocibldpioaaDoor
open Go.ChangeShapes Go.WideShapes Go.ChangeAt Go.RowKit
open Go.ChangeMaps (open_string)

set_option maxRecDepth 100000 in
theorem continued_lifted (os : Os) (started : os.Started) (H : Type) (enc : TypeId × Value → H) (F : Stop.Interp) :
    ReturnsInHanded {} Tryd.checked os 11 .any ((Rows.OpenSpec.upto Rows.fnExactContinuedSpec).preRow enc Tryd.prog Tryd.f11 Rows.fnExactContinuedUptoRow.domain false Rows.fnExactContinuedUptoRow.laid) (((Rows.OpenSpec.upto Rows.fnExactContinuedSpec).at F).post enc Tryd.prog Tryd.f11 false true false false) := by
  obtain ⟨x, hx, hsm⟩ := some_of_small (f := fun x => Rows.uptoSmall H (x.1 ++ x.2.1)) (o := DataW.whole enc Tryd.prog ((World.laidAll Tryd.prog os Rows.fnExactContinuedUptoRow.laid).forCall (fun _ _ => 0) ⟨#[], #[.slice none 0 0], []⟩).memory Tryd.f11.params.toList Rows.fnExactContinuedSpec.vars false #[Value.slice none 0 0].toList 8) (by kernel_rfl)
  refine returnsInHanded_of_row (C := Tryd.checked) (s := Rows.OpenSpec.upto Rows.fnExactContinuedSpec) Tryd.own started (by kernel_rfl) Tryd.func11
    (door_witness (World.laidAll Tryd.prog os Rows.fnExactContinuedUptoRow.laid) #[.slice none 0 0] (World.laidAll_os _ _ _) (World.shaped_of_ZipB (by kernel_rfl) (by kernel_rfl)) (by kernel_rfl)
      (OpenSpec.preRow_of_cond 8 hx rfl (fun k hk => by cases hk; exact hsm) (by kernel_rfl) (by rw [MakeChecks.laidMetH_plain _ _ _ (by kernel_rfl)]; exact laidMet_laidAll _ (by kernel_rfl) (by kernel_rfl)))) ?_
  intro W base args ds gs before hval0 hW _ hcond hreach hL _ _
  have hval : ∀ (j : Nat) t v, Tryd.f11.params[j]? = some t → args[j]? = some v → Value.okWide Tryd.prog W .any base t v := hval0
  have hS : Sens W (senAt W) [1, 2, 5] := (sens_of_laid hL (by kernel_rfl) (by kernel_rfl) (gs := _) rfl).sub (by decide +kernel) (by decide)
  have hW' := hW
  obtain ⟨p, q, hA0, hV, rfl, hfz, hnd⟩ := hW
  have hA : DataW.TrodAll enc Tryd.prog W 0 (fun _ => true) true Tryd.f11.params.toList args.toList ds p := hA0
  rw [Tryd.params11] at hA hval
  obtain ⟨v0, vs0, d0, ds0, p0, q0, hargs, rfl, rfl, h0, r0⟩ := trodAll_cons hA
  obtain ⟨rfl, rfl, rfl⟩ := trodAll_nil r0
  obtain rfl : args = #[v0] := by cases args; simp_all
  obtain ⟨gv, rfl⟩ := trodVars_single hV
  obtain ⟨A0, n0, c0, l0, rfl, hn0, hr0, hx0, hy0, hw0⟩ := open_longsV (hval 0 48 v0 rfl rfl) h0
  have hbk0 := Nat.le_trans hw0 (show Rows.uptoBulk d0 ≤ 1048576 by have h := bulk_bound (hcond _ rfl); simp [Rows.uptoBulkAll] at h; omega)
  have walk := lawContinued (senAt W) _ A0 n0 c0 l0 hn0 hx0 hy0 hbk0 W hr0 hS (by decide) (by decide) (by decide)
  refine walk.mono fun e W' ⟨he, hw⟩ => ?_
  subst he
  exact ⟨_, rfl, law_post Tryd.laidOut (by kernel_rfl) (by kernel_rfl) rfl Tryd.underlying4 rfl hW' hw⟩

theorem continued_said : Rows.FnExactContinuedUptoSaid :=
  OpenClaim.holds_of_cond 11 Tryd.f11 rfl rfl rfl rfl rfl rfl rfl ⟨rfl, rfl, rfl, rfl, rfl⟩ rfl rfl rfl rfl rfl (by kernel_rfl) Tryd.func11 (by kernel_rfl)
    (of_decide_eq_true (by kernel_rfl)) (by unfold Func.isWrapper; first | (rw [if_pos (by decide +kernel)]; kernel_rfl) | (rw [if_neg (by decide +kernel)]; exact ⟨rfl, rfl⟩))
    (fun os started H enc _ F => by rw [OpenClaim.pre_eq_preRow]; exact continued_lifted os started H enc F)

theorem continued_holds : Rows.FnExactContinuedUptoCardSaid :=
  Claim7.holds_tied_plain_at .later [] _ _ _ _ continued_said (fun _ h => by cases h) (by kernel_rfl) (fun _ h => by cases h) fnExactContinuedUpto_row_tie rfl ⟨rfl, rfl⟩ (by kernel_rfl) rfl
    (fun f fn hf hfn => by
      obtain rfl : f = 11 := Option.some.inj ((show Tryd.prog.funcNamed "loop.example/pub-headerlines/laws.FnExactContinued" = some 11 by kernel_rfl).symm.trans hf) |>.symm
      obtain rfl : fn = Tryd.f11 := (Option.some.inj (Tryd.func11.symm.trans hfn)).symm
      exact ⟨by kernel_rfl, fun j t ht => by
        have hm : t ∈ Tryd.f11.params.toList := by simpa using Array.mem_of_getElem? ht
        have hall : (Tryd.f11.params.toList.all fun u => !Tryd.prog.wantsStandIn u) = true := by kernel_rfl
        exact (show Tryd.prog.wantsStandIn t = false by simpa using List.all_eq_true.1 hall t hm)⟩)
    (by kernel_rfl)
end Go.Proofs.YteiiocibldpioaaDoor
