/- The frame of every law of this seat's cards: the call answers true, nothing that was there has turned: then the row's 'post' holds; and the world by which the row's 'there is an input that fits' is shown. No program is walked here. -/
import Derived.Test.YtfnkkjehkegpgaaDoorSent
import Derived.Test.YtfnkkjehkegpgaaDoorCards
import Derived.Test.YtfnkkjehkegpgaaDoorTie
import Derived.WalkKit
import Derived.ProofKit
import Derived.OpenShut
import Derived.OpenVars
import Derived.JoinedCond
import Derived.Deep.DeepHandedRow
import Derived.Lay
import Derived.SevenTiedAt
namespace Go.Proofs.YtfnkkjehkegpgaaDoor
open Go.ChangeShapes Go.WideShapes Go.ChangeAt Go.RowKit

theorem Tryd.own : ownKnob Tryd.prog.godebug = none := by kernel_rfl
theorem Tryd.laidOut : laidOutB Tryd.prog = true := by kernel_rfl

/-- The arguments read behind the call as they read before. -/
theorem stays_all {H : Type} {enc : TypeId × Value → H} {P : Program} (hl : laidOutB P = true) {W W' : World} (hb : Below W.heap.size W W') :
    ∀ {ts : List TypeId} {vs : List Value} {ds : List (DataW H)} {ps : List MemPlace}, (ts.all fun t => P.readableRec t && decide (t < P.types.size)) = true →
      DataW.TrodAll enc P W 0 (fun _ => true) true ts vs ds ps → (∀ x ∈ ps, x.block < W.heap.size) → DataW.TrodAll enc P W' 0 (fun b => decide (b < W.heap.size)) true ts vs ds ps
  | [], _, _, _, _, h, _ => by
    obtain ⟨rfl, rfl, rfl⟩ := trodAll_nil h
    exact trodAll_mk0
  | t :: ts, _, _, _, ht, h, hlt => by
    obtain ⟨v, vs', d, ds', p, q, rfl, rfl, rfl, h1, h2⟩ := trodAll_cons h
    simp only [List.all_cons, Bool.and_eq_true, decide_eq_true_eq] at ht
    exact trodAll_cons_mk (Below.trod hl ht.1.1 ht.1.2 h1 hb (fun x hx => hlt x (List.mem_append_left _ hx)))
      (stays_all hl hb ht.2 h2 (fun x hx => hlt x (List.mem_append_right _ hx)))

/-- A law's end: the call has answered true, and nothing that was there has turned. -/
theorem law_post {H : Type} {enc : TypeId × Value → H} {P : Program} (hl : laidOutB P = true) {f : Func} {s : ChangeSpec} {tb : TypeId} {apart fresh handsOn : Bool} {W W' : World} {args : Array Value}
    {ds gs : List (DataW H)} {before : List MemPlace} (hvars : varsRowed P s.vars = true) (hp : (f.params.toList.all fun t => P.readableRec t && decide (t < P.types.size)) = true) (hr : f.resultTypes = #[tb])
    (htb : P.underlying tb = some .bool) (hs : s.fn H (ds ++ gs) = { results := [.lit (.bool true)], args := ds, vars := gs })
    (hW : DataW.Whole enc P f.params.toList s.vars apart W args.toList ds gs before) (hb : Below W.heap.size W W') :
    s.post enc P f apart fresh handsOn false W args (.bool true) W' := by
  have hlt : ∀ p ∈ before, p.block < W.heap.size := fun p hp => hW.lt p hp
  have hW' := hW
  obtain ⟨p, q, hA, hV, rfl, _, _⟩ := hW
  refine ⟨ds, gs, p ++ q, [], p, q, hW', ?_, ?_, ?_, hb.frame _, fun h => by cases h⟩
  · rw [hs, hr]
    exact trodAll_mk1 (shut_bool htb _)
  · rw [hs]
    exact stays_all hl hb hp hA (fun x hx => hlt x (List.mem_append_left _ hx))
  · rw [hs]
    exact Below.trodVars hl hb hvars hV

/-- 'There is an input that fits': the world in which all the listed variables are laid. -/
theorem door_witness {H : Type} {enc : TypeId × Value → H} {C : Checked} {os : Os} {f : FuncId} {fn : Func} {s : OpenSpec} {conds : List PathCond} {apart : Bool} {laid : List (String × DataW Unit)} (w0 : World) (args : Array Value) (hos : w0.os = os)
    (hsh : (w0.forCall (fun _ _ => 0) ⟨#[], args, []⟩).Shaped C.prog)
    (hok : Input.okWideB C.prog (w0.forCall (fun _ _ => 0) ⟨#[], args, []⟩) f ⟨#[], args, []⟩ = true)
    (hrow : s.preRow enc C.prog fn conds apart laid (w0.forCall (fun _ _ => 0) ⟨#[], args, []⟩).memory args) :
    ∃ (w : World) (tape : Tape) (i : Input), w.os = os ∧ (w.forCall tape i).Shaped C.prog ∧ i.vars = [] ∧ Input.okWide C.prog (w.forCall tape i) .any w.heap.size f i ∧
      s.preRow enc C.prog fn conds apart laid (w.forCall tape i).memory i.args ∧ ({} : Assume).holds C.prog (lone (Frame.enter C.prog f i.args .normal) [] (w.forCall tape i)) :=
  ⟨w0, fun _ _ => 0, ⟨#[], args, []⟩, hos, hsh, (Input.okWide_of_okWideB (base := 0) hok).1, (Input.okWide_of_okWideB hok).2, hrow, by
    simp only [Assume.holds]
    exact ⟨by simp, by simp, fun _ => Modest.zero, by simp, by simp⟩⟩
theorem trodVars_single {H : Type} {enc : TypeId × Value → H} {P : Program} {w : World} {sp : Nat → Bool} {n : String} {gs : List (DataW H)} {ps : List MemPlace} (h : DataW.TrodVars enc P w sp [n] gs ps) : ∃ g, gs = [g] := by
  match gs, h with
  | [], h => exact h.elim
  | [g], _ => exact ⟨g, rfl⟩
  | _ :: _ :: _, h =>
    obtain ⟨_, _, _, _, _, _, _, _, _, _, h', _⟩ := h
    exact h'.elim
theorem some_of_isSome {α : Type} {o : Option α} (h : o.isSome = true) : ∃ x, o = some x := Option.isSome_iff_exists.1 h
end Go.Proofs.YtfnkkjehkegpgaaDoor
