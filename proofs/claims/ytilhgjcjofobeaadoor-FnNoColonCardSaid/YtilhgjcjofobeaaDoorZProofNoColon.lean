/- FnNoColon: a header with a line without a colon is an error of the protocol. Conditions: the package's variables hold what the program's text lays. -/
import Derived.Test.YtilhgjcjofobeaaDoorZC1
import Derived.Test.YtilhgjcjofobeaaDoorZNoCol
import Derived.Test.YtilhgjcjofobeaaDoorZC6
namespace Go.Proofs.YtilhgjcjofobeaaDoor
open Go.ChangeShapes Go.WideShapes Go.ChangeAt Go.RowKit
open Go.ChangeMaps (open_string)

set_option maxRecDepth 100000 in
theorem nocolon_lifted (os : Os) (started : os.Started) (H : Type) (enc : TypeId × Value → H) (F : Stop.Interp) :
    ReturnsInHanded {} Tryd.checked os 3 .any ((OpenSpec.ofChange Rows.fnNoColonSpec).preRow enc Tryd.prog Tryd.f3 Rows.fnNoColonRow.domain false Rows.fnNoColonRow.laid) (((OpenSpec.ofChange Rows.fnNoColonSpec).at F).post enc Tryd.prog Tryd.f3 false true false false) := by
  obtain ⟨x, hx⟩ := some_of_isSome (o := DataW.whole enc Tryd.prog ((World.laidAll Tryd.prog os Rows.fnNoColonRow.laid).forCall (fun _ _ => 0) ⟨#[], #[.slice none 0 0, .string ⟨#[]⟩, .slice none 0 0], []⟩).memory Tryd.f3.params.toList Rows.fnNoColonSpec.vars false #[Value.slice none 0 0, Value.string ⟨#[]⟩, Value.slice none 0 0].toList 8) (by kernel_rfl)
  refine returnsInHanded_of_row (C := Tryd.checked) (s := OpenSpec.ofChange Rows.fnNoColonSpec) Tryd.own started (by kernel_rfl) Tryd.func3
    (door_witness (World.laidAll Tryd.prog os Rows.fnNoColonRow.laid) #[.slice none 0 0, .string ⟨#[]⟩, .slice none 0 0] (World.laidAll_os _ _ _) (World.shaped_of_ZipB (by kernel_rfl) (by kernel_rfl)) (by kernel_rfl)
      (OpenSpec.preRow_of_cond 8 hx rfl (fun k hk => by cases hk) (by kernel_rfl) (by rw [MakeChecks.laidMetH_plain _ _ _ (by kernel_rfl)]; exact laidMet_laidAll _ (by kernel_rfl) (by kernel_rfl)))) ?_
  intro W base args ds gs before hval0 hW _ _ hreach hL _ _
  have hval : ∀ (j : Nat) t v, Tryd.f3.params[j]? = some t → args[j]? = some v → Value.okWide Tryd.prog W .any base t v := hval0
  have hS : Sens W (senAt W) [0, 1, 5] := (sens_of_laid hL (by kernel_rfl) (by kernel_rfl) (gs := _) rfl).sub (by decide +kernel) (by decide)
  have hW' := hW
  obtain ⟨p, q, hA0, hV, rfl, hfz, hnd⟩ := hW
  have hA : DataW.TrodAll enc Tryd.prog W 0 (fun _ => true) true Tryd.f3.params.toList args.toList ds p := hA0
  rw [Tryd.params3] at hA hval
  obtain ⟨v0, vs0, d0, ds0, p0, q0, hargs, rfl, rfl, h0, r0⟩ := trodAll_cons hA
  obtain ⟨v1, vs1, d1, ds1, p1, q1, rfl, rfl, rfl, h1, r1⟩ := trodAll_cons r0
  obtain ⟨v2, vs2, d2, ds2, p2, q2, rfl, rfl, rfl, h2, r2⟩ := trodAll_cons r1
  obtain ⟨rfl, rfl, rfl⟩ := trodAll_nil r2
  obtain rfl : args = #[v0, v1, v2] := by cases args; simp_all
  obtain ⟨gv, rfl⟩ := trodVars_single hV
  obtain ⟨A0, n0, c0, l0, rfl, hn0, hr0, hx0, hy0, hw0⟩ := open_fieldsV (hval 0 22 v0 rfl rfl) h0
  obtain ⟨x1, rfl, rfl, rfl, ws1⟩ := open_string Tryd.underlying9 (hval 1 9 v1 rfl rfl) h1
  have hx1 : x1.data.toList.length ≤ 9223372036854775807 := by
    have h1 : x1.data.toList.length = x1.size := by simp
    unfold maxLen at ws1; omega
  obtain ⟨A2, n2, c2, l2, rfl, hn2, hr2, hx2, hy2, hz2⟩ := open_bytesV (hval 2 23 v2 rfl rfl) h2
  have walk := lawNoColon (senAt W) _ A0 n0 c0 l0 x1.data.toList A2 n2 c2 l2 hn0 hx0 hy0 hx1 hn2 hx2 W hr0 hr2 hS (by decide) (by decide) (by decide)
  rw [← mk_of x1] at walk
  refine walk.mono fun e W' ⟨he, hw⟩ => ?_
  subst he
  exact ⟨_, rfl, law_post Tryd.laidOut (by kernel_rfl) (by kernel_rfl) rfl Tryd.underlying4 rfl hW' hw⟩

theorem nocolon_said : Rows.FnNoColonSaid :=
  OpenClaim.holds_of_cond 3 Tryd.f3 rfl rfl rfl rfl rfl rfl rfl ⟨rfl, rfl, rfl, rfl, rfl⟩ rfl rfl rfl rfl rfl (by kernel_rfl) Tryd.func3 (by kernel_rfl)
    (of_decide_eq_true (by kernel_rfl)) (by unfold Func.isWrapper; first | (rw [if_pos (by decide +kernel)]; kernel_rfl) | (rw [if_neg (by decide +kernel)]; exact ⟨rfl, rfl⟩))
    (fun os started H enc _ F => by rw [OpenClaim.pre_eq_preRow]; exact nocolon_lifted os started H enc F)

theorem nocolon_holds : Rows.FnNoColonCardSaid :=
  Claim7.holds_tied_plain_at .later [] _ _ _ _ nocolon_said (fun _ h => by cases h) (by kernel_rfl) (fun _ h => by cases h) fnNoColon_row_tie rfl ⟨rfl, rfl⟩ (by kernel_rfl) rfl
    (fun f fn hf hfn => by
      obtain rfl : f = 3 := Option.some.inj ((show Tryd.prog.funcNamed "loop.example/pub-headerlines/laws.FnNoColon" = some 3 by kernel_rfl).symm.trans hf) |>.symm
      obtain rfl : fn = Tryd.f3 := (Option.some.inj (Tryd.func3.symm.trans hfn)).symm
      exact ⟨by kernel_rfl, fun j t ht => by
        have hm : t ∈ Tryd.f3.params.toList := by simpa using Array.mem_of_getElem? ht
        have hall : (Tryd.f3.params.toList.all fun u => !Tryd.prog.wantsStandIn u) = true := by kernel_rfl
        exact (show Tryd.prog.wantsStandIn t = false by simpa using List.all_eq_true.1 hall t hm)⟩)
    (by kernel_rfl)
end Go.Proofs.YtilhgjcjofobeaaDoor
