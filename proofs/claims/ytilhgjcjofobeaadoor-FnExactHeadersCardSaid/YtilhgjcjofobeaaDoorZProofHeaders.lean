/- FnExactHeaders: a header is its keys in canonical form with their values in order, and what is behind it is not read. Conditions: the package's variables hold what the program's text lays. -/
import Derived.Test.YtilhgjcjofobeaaDoorZC1
import Derived.Test.YtilhgjcjofobeaaDoorZHdX
import Derived.Test.YtilhgjcjofobeaaDoorZC6
namespace Go.Proofs.YtilhgjcjofobeaaDoor
open Go.ChangeShapes Go.WideShapes Go.ChangeAt Go.RowKit
open Go.ChangeMaps (open_string)

set_option maxRecDepth 100000 in
theorem headers_lifted (os : Os) (started : os.Started) (H : Type) (enc : TypeId × Value → H) (F : Stop.Interp) :
    ReturnsInHanded {} Tryd.checked os 4 .any ((OpenSpec.ofChange Rows.fnExactHeadersSpec).preRow enc Tryd.prog Tryd.f4 Rows.fnExactHeadersRow.domain false Rows.fnExactHeadersRow.laid) (((OpenSpec.ofChange Rows.fnExactHeadersSpec).at F).post enc Tryd.prog Tryd.f4 false true false false) := by
  obtain ⟨x, hx⟩ := some_of_isSome (o := DataW.whole enc Tryd.prog ((World.laidAll Tryd.prog os Rows.fnExactHeadersRow.laid).forCall (fun _ _ => 0) ⟨#[], #[.slice none 0 0, .slice none 0 0], []⟩).memory Tryd.f4.params.toList Rows.fnExactHeadersSpec.vars false #[Value.slice none 0 0, Value.slice none 0 0].toList 8) (by kernel_rfl)
  refine returnsInHanded_of_row (C := Tryd.checked) (s := OpenSpec.ofChange Rows.fnExactHeadersSpec) Tryd.own started (by kernel_rfl) Tryd.func4
    (door_witness (World.laidAll Tryd.prog os Rows.fnExactHeadersRow.laid) #[.slice none 0 0, .slice none 0 0] (World.laidAll_os _ _ _) (World.shaped_of_ZipB (by kernel_rfl) (by kernel_rfl)) (by kernel_rfl)
      (OpenSpec.preRow_of_cond 8 hx rfl (fun k hk => by cases hk) (by kernel_rfl) (by rw [MakeChecks.laidMetH_plain _ _ _ (by kernel_rfl)]; exact laidMet_laidAll _ (by kernel_rfl) (by kernel_rfl)))) ?_
  intro W base args ds gs before hval0 hW _ _ hreach hL _ _
  have hval : ∀ (j : Nat) t v, Tryd.f4.params[j]? = some t → args[j]? = some v → Value.okWide Tryd.prog W .any base t v := hval0
  have hS : Sens W (senAt W) [0, 1, 5] := (sens_of_laid hL (by kernel_rfl) (by kernel_rfl) (gs := _) rfl).sub (by decide +kernel) (by decide)
  have hW' := hW
  obtain ⟨p, q, hA0, hV, rfl, hfz, hnd⟩ := hW
  have hA : DataW.TrodAll enc Tryd.prog W 0 (fun _ => true) true Tryd.f4.params.toList args.toList ds p := hA0
  rw [Tryd.params4] at hA hval
  obtain ⟨v0, vs0, d0, ds0, p0, q0, hargs, rfl, rfl, h0, r0⟩ := trodAll_cons hA
  obtain ⟨v1, vs1, d1, ds1, p1, q1, rfl, rfl, rfl, h1, r1⟩ := trodAll_cons r0
  obtain ⟨rfl, rfl, rfl⟩ := trodAll_nil r1
  obtain rfl : args = #[v0, v1] := by cases args; simp_all
  obtain ⟨gv, rfl⟩ := trodVars_single hV
  obtain ⟨A0, n0, c0, l0, rfl, hn0, hr0, hx0, hy0, hw0⟩ := open_fieldsV (hval 0 22 v0 rfl rfl) h0
  obtain ⟨A1, n1, c1, l1, rfl, hn1, hr1, hx1, hy1, hz1⟩ := open_bytesV (hval 1 23 v1 rfl rfl) h1
  have walk := lawHeaders (senAt W) _ A0 n0 c0 l0 A1 n1 c1 l1 hn0 hx0 hy0 hn1 hx1 W hr0 hr1 hS (by decide) (by decide) (by decide)
  refine walk.mono fun e W' ⟨he, hw⟩ => ?_
  subst he
  exact ⟨_, rfl, law_post Tryd.laidOut (by kernel_rfl) (by kernel_rfl) rfl Tryd.underlying4 rfl hW' hw⟩

theorem headers_said : Rows.FnExactHeadersSaid :=
  OpenClaim.holds_of_cond 4 Tryd.f4 rfl rfl rfl rfl rfl rfl rfl ⟨rfl, rfl, rfl, rfl, rfl⟩ rfl rfl rfl rfl rfl (by kernel_rfl) Tryd.func4 (by kernel_rfl)
    (of_decide_eq_true (by kernel_rfl)) (by unfold Func.isWrapper; first | (rw [if_pos (by decide +kernel)]; kernel_rfl) | (rw [if_neg (by decide +kernel)]; exact ⟨rfl, rfl⟩))
    (fun os started H enc _ F => by rw [OpenClaim.pre_eq_preRow]; exact headers_lifted os started H enc F)

theorem headers_holds : Rows.FnExactHeadersCardSaid :=
  Claim7.holds_tied_plain_at .later [] _ _ _ _ headers_said (fun _ h => by cases h) (by kernel_rfl) (fun _ h => by cases h) fnExactHeaders_row_tie rfl ⟨rfl, rfl⟩ (by kernel_rfl) rfl
    (fun f fn hf hfn => by
      obtain rfl : f = 4 := Option.some.inj ((show Tryd.prog.funcNamed "loop.example/pub-headerlines/laws.FnExactHeaders" = some 4 by kernel_rfl).symm.trans hf) |>.symm
      obtain rfl : fn = Tryd.f4 := (Option.some.inj (Tryd.func4.symm.trans hfn)).symm
      exact ⟨by kernel_rfl, fun j t ht => by
        have hm : t ∈ Tryd.f4.params.toList := by simpa using Array.mem_of_getElem? ht
        have hall : (Tryd.f4.params.toList.all fun u => !Tryd.prog.wantsStandIn u) = true := by kernel_rfl
        exact (show Tryd.prog.wantsStandIn t = false by simpa using List.all_eq_true.1 hall t hm)⟩)
    (by kernel_rfl)
end Go.Proofs.YtilhgjcjofobeaaDoor
