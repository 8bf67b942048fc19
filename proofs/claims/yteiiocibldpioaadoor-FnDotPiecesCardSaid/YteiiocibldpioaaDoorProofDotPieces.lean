/- FnDotPieces: it makes no difference into which Writes data are cut. Conditions: the package's variables hold what the program's text lays. -/
import Derived.Test.YteiiocibldpioaaDoorFrameD
import Derived.Test.YteiiocibldpioaaDoorWrM
namespace Go.Proofs.YteiiocibldpioaaDoor
open Go.ChangeShapes Go.WideShapes Go.ChangeAt Go.RowKit
open Go.ChangeMaps (open_string)

set_option maxRecDepth 100000 in
theorem dotpieces_lifted (os : Os) (started : os.Started) (H : Type) (enc : TypeId × Value → H) (F : Stop.Interp) :
    ReturnsInHanded {} Tryd.checked os 3 .any ((OpenSpec.ofChange Rows.fnDotPiecesSpec).preRow enc Tryd.prog Tryd.f3 Rows.fnDotPiecesRow.domain false Rows.fnDotPiecesRow.laid) (((OpenSpec.ofChange Rows.fnDotPiecesSpec).at F).post enc Tryd.prog Tryd.f3 false true false false) := by
  obtain ⟨x, hx⟩ := some_of_isSome (o := DataW.whole enc Tryd.prog ((World.laidAll Tryd.prog os Rows.fnDotPiecesRow.laid).forCall (fun _ _ => 0) ⟨#[], #[.slice none 0 0], []⟩).memory Tryd.f3.params.toList Rows.fnDotPiecesSpec.vars false #[Value.slice none 0 0].toList 8) (by kernel_rfl)
  refine returnsInHanded_of_row (C := Tryd.checked) (s := OpenSpec.ofChange Rows.fnDotPiecesSpec) Tryd.own started (by kernel_rfl) Tryd.func3
    (door_witness (World.laidAll Tryd.prog os Rows.fnDotPiecesRow.laid) #[.slice none 0 0] (World.laidAll_os _ _ _) (World.shaped_of_ZipB (by kernel_rfl) (by kernel_rfl)) (by kernel_rfl)
      (OpenSpec.preRow_of_cond 8 hx rfl (fun k hk => by cases hk) (by kernel_rfl) (by rw [MakeChecks.laidMetH_plain _ _ _ (by kernel_rfl)]; exact laidMet_laidAll _ (by kernel_rfl) (by kernel_rfl)))) ?_
  intro W base args ds gs before hval0 hW _ _ hreach hL _ _
  have hval : ∀ (j : Nat) t v, Tryd.f3.params[j]? = some t → args[j]? = some v → Value.okWide Tryd.prog W .any base t v := hval0
  have hW' := hW
  obtain ⟨p, q, hA0, hV, rfl, hfz, hnd⟩ := hW
  have hA : DataW.TrodAll enc Tryd.prog W 0 (fun _ => true) true Tryd.f3.params.toList args.toList ds p := hA0
  rw [Tryd.params3] at hA hval
  obtain ⟨v0, vs0, d0, ds0, p0, q0, hargs, rfl, rfl, h0, r0⟩ := trodAll_cons hA
  obtain ⟨rfl, rfl, rfl⟩ := trodAll_nil r0
  obtain rfl : args = #[v0] := by cases args; simp_all
  obtain ⟨rfl, rfl⟩ := trodVars_none hV
  obtain ⟨A0, n0, c0, l0, rfl, hn0, hr0, hx0, hy0, hz0⟩ := open_rowsV (hval 0 22 v0 rfl rfl) h0
  have walk := lawDotPieces A0 n0 c0 l0 hn0 hx0 (Nat.le_trans hy0 hz0) W hr0
  refine walk.mono fun e W' ⟨he, hw⟩ => ?_
  subst he
  exact ⟨_, rfl, law_post Tryd.laidOut (by kernel_rfl) (by kernel_rfl) rfl Tryd.underlying4 rfl hW' hw⟩

theorem dotpieces_said : Rows.FnDotPiecesSaid :=
  OpenClaim.holds_of_cond 3 Tryd.f3 rfl rfl rfl rfl rfl rfl rfl ⟨rfl, rfl, rfl, rfl, rfl⟩ rfl rfl rfl rfl rfl (by kernel_rfl) Tryd.func3 (by kernel_rfl)
    (of_decide_eq_true (by kernel_rfl)) (by unfold Func.isWrapper; first | (rw [if_pos (by decide +kernel)]; kernel_rfl) | (rw [if_neg (by decide +kernel)]; exact ⟨rfl, rfl⟩))
    (fun os started H enc _ F => by rw [OpenClaim.pre_eq_preRow]; exact dotpieces_lifted os started H enc F)

theorem dotpieces_holds : Rows.FnDotPiecesCardSaid :=
  Claim7.holds_tied_plain_at .later [] _ _ _ _ dotpieces_said (fun _ h => by cases h) (by kernel_rfl) (fun _ h => by cases h) fnDotPieces_row_tie rfl ⟨rfl, rfl⟩ (by kernel_rfl) rfl
    (fun f fn hf hfn => by
      obtain rfl : f = 3 := Option.some.inj ((show Tryd.prog.funcNamed "loop.example/pub-headerlines/laws.FnDotPieces" = some 3 by kernel_rfl).symm.trans hf) |>.symm
      obtain rfl : fn = Tryd.f3 := (Option.some.inj (Tryd.func3.symm.trans hfn)).symm
      exact ⟨by kernel_rfl, fun j t ht => by
        have hm : t ∈ Tryd.f3.params.toList := by simpa using Array.mem_of_getElem? ht
        have hall : (Tryd.f3.params.toList.all fun u => !Tryd.prog.wantsStandIn u) = true := by kernel_rfl
        exact (show Tryd.prog.wantsStandIn t = false by simpa using List.all_eq_true.1 hall t hm)⟩)
    (by kernel_rfl)
end Go.Proofs.YteiiocibldpioaaDoor
