/- FnExactResponse: ReadResponse reads an answer of several lines, in both forms, and nothing behind it. Conditions: the package's variables hold what the program's text lays; what is read is of bulk at most 1048576. -/
import Derived.Test.YtfnkkjehkegpgaaDoorFrameD
import Derived.Test.YtfnkkjehkegpgaaDoorRespX
import Derived.Test.YtfnkkjehkegpgaaDoorOpenA
import Derived.Test.YtfnkkjehkegpgaaDoorOpenB
namespace Go.Proofs.YtfnkkjehkegpgaaDoor
open Go.ChangeShapes Go.WideShapes Go.ChangeAt Go.RowKit
open Go.ChangeMaps (open_string)

set_option maxRecDepth 100000 in
theorem response_lifted (os : Os) (started : os.Started) (H : Type) (enc : TypeId × Value → H) (F : Stop.Interp) :
    ReturnsInHanded {} Tryd.checked os 3 .any ((Rows.OpenSpec.upto Rows.fnExactResponseSpec).preRow enc Tryd.prog Tryd.f3 Rows.fnExactResponseUptoRow.domain false Rows.fnExactResponseUptoRow.laid) (((Rows.OpenSpec.upto Rows.fnExactResponseSpec).at F).post enc Tryd.prog Tryd.f3 false true false false) := by
  obtain ⟨x, hx, hsm⟩ := some_of_small (f := fun x => Rows.uptoSmall H (x.1 ++ x.2.1)) (o := DataW.whole enc Tryd.prog ((World.laidAll Tryd.prog os Rows.fnExactResponseUptoRow.laid).forCall (fun _ _ => 0) ⟨#[], #[.int .i64 0, .slice none 0 0, .int .i64 0, .slice none 0 0], []⟩).memory Tryd.f3.params.toList Rows.fnExactResponseSpec.vars false #[Value.int .i64 0, Value.slice none 0 0, Value.int .i64 0, Value.slice none 0 0].toList 8) (by kernel_rfl)
  refine returnsInHanded_of_row (C := Tryd.checked) (s := Rows.OpenSpec.upto Rows.fnExactResponseSpec) Tryd.own started (by kernel_rfl) Tryd.func3
    (door_witness (World.laidAll Tryd.prog os Rows.fnExactResponseUptoRow.laid) #[.int .i64 0, .slice none 0 0, .int .i64 0, .slice none 0 0] (World.laidAll_os _ _ _) (World.shaped_of_ZipB (by kernel_rfl) (by kernel_rfl)) (by kernel_rfl)
      (OpenSpec.preRow_of_cond 8 hx rfl (fun k hk => by cases hk; exact hsm) (by kernel_rfl) (by rw [MakeChecks.laidMetH_plain _ _ _ (by kernel_rfl)]; exact laidMet_laidAll _ (by kernel_rfl) (by kernel_rfl)))) ?_
  intro W base args ds gs before hval0 hW _ hcond hreach hL _ _
  have hval : ∀ (j : Nat) t v, Tryd.f3.params[j]? = some t → args[j]? = some v → Value.okWide Tryd.prog W .any base t v := hval0
  have hS : Sens W (senAt W) [6, 5, 0, 1, 4] := (sens_of_laid hL (by kernel_rfl) (by kernel_rfl) (gs := _) rfl).sub (by decide +kernel) (by decide)
  have hW' := hW
  obtain ⟨p, q, hA0, hV, rfl, hfz, hnd⟩ := hW
  have hA : DataW.TrodAll enc Tryd.prog W 0 (fun _ => true) true Tryd.f3.params.toList args.toList ds p := hA0
  rw [Tryd.params3] at hA hval
  obtain ⟨v0, vs0, d0, ds0, p0, q0, hargs, rfl, rfl, h0, r0⟩ := trodAll_cons hA
  obtain ⟨v1, vs1, d1, ds1, p1, q1, rfl, rfl, rfl, h1, r1⟩ := trodAll_cons r0
  obtain ⟨v2, vs2, d2, ds2, p2, q2, rfl, rfl, rfl, h2, r2⟩ := trodAll_cons r1
  obtain ⟨v3, vs3, d3, ds3, p3, q3, rfl, rfl, rfl, h3, r3⟩ := trodAll_cons r2
  obtain ⟨rfl, rfl, rfl⟩ := trodAll_nil r3
  obtain rfl : args = #[v0, v1, v2, v3] := by cases args; simp_all
  obtain ⟨gv, rfl⟩ := trodVars_single hV
  obtain ⟨x0, rfl, rfl, rfl, wx0⟩ := open_int Tryd.underlying3 (hval 0 3 v0 rfl rfl) h0
  have hx0 : -9223372036854775808 ≤ x0 ∧ x0 ≤ 9223372036854775807 := by simpa [Lit.wf, IntKind.min, IntKind.max, IntKind.signed, IntKind.bits] using wx0
  obtain ⟨A1, n1, c1, l1, rfl, hn1, hr1, hx1, hy1, hw1⟩ := open_linesV (hval 1 22 v1 rfl rfl) h1
  have hbk1 := Nat.le_trans hw1 (show Rows.uptoBulk d1 ≤ 1048576 by have h := bulk_bound (hcond _ rfl); simp [Rows.uptoBulkAll] at h; omega)
  obtain ⟨x2, rfl, rfl, rfl, wx2⟩ := open_int Tryd.underlying3 (hval 2 3 v2 rfl rfl) h2
  have hx2 : -9223372036854775808 ≤ x2 ∧ x2 ≤ 9223372036854775807 := by simpa [Lit.wf, IntKind.min, IntKind.max, IntKind.signed, IntKind.bits] using wx2
  obtain ⟨A3, n3, c3, l3, rfl, hn3, hr3, hx3, hy3, hz3⟩ := open_bytesV (hval 3 23 v3 rfl rfl) h3
  have walk := lawResponse (senAt W) _ x0 A1 n1 c1 l1 x2 A3 n3 c3 l3 hx0.2 hx0.1 hn1 hx1 hy1 hbk1 hn3 hx3 W hr1 hr3 hS (by decide) (by decide) (by decide) (by decide)
  refine walk.mono fun e W' ⟨he, hw⟩ => ?_
  subst he
  exact ⟨_, rfl, law_post Tryd.laidOut (by kernel_rfl) (by kernel_rfl) rfl Tryd.underlying4 rfl hW' hw⟩

theorem response_said : Rows.FnExactResponseUptoSaid :=
  OpenClaim.holds_of_cond 3 Tryd.f3 rfl rfl rfl rfl rfl rfl rfl ⟨rfl, rfl, rfl, rfl, rfl⟩ rfl rfl rfl rfl rfl (by kernel_rfl) Tryd.func3 (by kernel_rfl)
    (of_decide_eq_true (by kernel_rfl)) (by unfold Func.isWrapper; first | (rw [if_pos (by decide +kernel)]; kernel_rfl) | (rw [if_neg (by decide +kernel)]; exact ⟨rfl, rfl⟩))
    (fun os started H enc _ F => by rw [OpenClaim.pre_eq_preRow]; exact response_lifted os started H enc F)

theorem response_holds : Rows.FnExactResponseUptoCardSaid :=
  Claim7.holds_tied_plain_at .later [] _ _ _ _ response_said (fun _ h => by cases h) (by kernel_rfl) (fun _ h => by cases h) fnExactResponseUpto_row_tie rfl ⟨rfl, rfl⟩ (by kernel_rfl) rfl
    (fun f fn hf hfn => by
      obtain rfl : f = 3 := Option.some.inj ((show Tryd.prog.funcNamed "loop.example/pub-headerlines/laws.FnExactResponse" = some 3 by kernel_rfl).symm.trans hf) |>.symm
      obtain rfl : fn = Tryd.f3 := (Option.some.inj (Tryd.func3.symm.trans hfn)).symm
      exact ⟨by kernel_rfl, fun j t ht => by
        have hm : t ∈ Tryd.f3.params.toList := by simpa using Array.mem_of_getElem? ht
        have hall : (Tryd.f3.params.toList.all fun u => !Tryd.prog.wantsStandIn u) = true := by kernel_rfl
        exact (show Tryd.prog.wantsStandIn t = false by simpa using List.all_eq_true.1 hall t hm)⟩)
    (by kernel_rfl)
end Go.Proofs.YtfnkkjehkegpgaaDoor
