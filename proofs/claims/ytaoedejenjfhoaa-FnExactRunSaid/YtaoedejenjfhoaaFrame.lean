/- The frame of every law of this seat: the call answers true, nothing that was there has turned: then the row's 'post' holds. No program is walked here. -/
import Derived.Test.YtaoedejenjfhoaaRows
import Derived.WalkKit
import Derived.ProofKit
import Derived.OpenShut
import Derived.JoinedCond
namespace Go.Proofs.Ytaoedejenjfhoaa
open Go.ChangeShapes Go.WideShapes Go.ChangeAt Go.RowKit

theorem Try.own : ownKnob Try.prog.godebug = none := by kernel_rfl
theorem Try.laidOut : laidOutB Try.prog = true := by kernel_rfl

/-- The arguments read behind the call as they read before. -/
theorem stays_all {H : Type} {enc : TypeId × Value → H} {P : Program} (hl : laidOutB P = true) {W W' : World} (hb : Below W.heap.size W W') :
    ∀ {ts : List TypeId} {vs : List Value} {ds : List (DataW H)} {ps : List MemPlace}, (ts.all fun t => P.readableRec t && decide (t < P.types.size)) = true →
      DataW.TrodAll enc P W 0 (fun _ => true) true ts vs ds ps → (∀ x ∈ ps, x.block < W.heap.size) → DataW.TrodAll enc P W' 0 (fun b => decide (b < W.heap.size)) true ts vs ds ps
  | [], _, _, _, _, h, _ => by
    obtain ⟨rfl, rfl, rfl⟩ := trodAll_nil h
    exact trodAll_mk0
  | t :: ts, _, _, _, ht, h, hlt => by
    obtain ⟨v, vs', d, ds', p, q, rfl, rfl, rfl, h1, h2⟩ := trodAll_cons h
    simp only [List.all_cons, Bool.and_eq_true, decide_eq_true_eq] at ht
    exact trodAll_cons_mk (Below.trod hl ht.1.1 ht.1.2 h1 hb (fun x hx => hlt x (List.mem_append_left _ hx)))
      (stays_all hl hb ht.2 h2 (fun x hx => hlt x (List.mem_append_right _ hx)))

/-- A law's end: the call has answered true, and nothing that was there has turned. -/
theorem law_post {H : Type} {enc : TypeId × Value → H} {P : Program} (hl : laidOutB P = true) {f : Func} {s : ChangeSpec} {tb : TypeId} {apart fresh handsOn : Bool} {W W' : World} {args : Array Value}
    {ds gs : List (DataW H)} {before : List MemPlace} (hvars : s.vars = []) (hp : (f.params.toList.all fun t => P.readableRec t && decide (t < P.types.size)) = true) (hr : f.resultTypes = #[tb])
    (htb : P.underlying tb = some .bool) (hs : s.fn H (ds ++ gs) = { results := [.lit (.bool true)], args := ds })
    (hW : DataW.Whole enc P f.params.toList s.vars apart W args.toList ds gs before) (hb : Below W.heap.size W W') :
    s.post enc P f apart fresh handsOn false W args (.bool true) W' := by
  have hlt : ∀ p ∈ before, p.block < W.heap.size := fun p hp => hW.lt p hp
  have hW' := hW
  obtain ⟨p, q, hA, hV, rfl, _, _⟩ := hW
  rw [hvars] at hV
  obtain ⟨rfl, rfl⟩ := trodVars_none hV
  refine ⟨ds, [], p ++ [], [], p, [], hW', ?_, ?_, ?_, hb.frame _, fun h => by cases h⟩
  · rw [hs, hr]
    exact trodAll_mk1 (shut_bool htb _)
  · rw [hs]
    exact stays_all hl hb hp hA (fun x hx => hlt x (by simpa using hx))
  · rw [hs, hvars]
    rfl
end Go.Proofs.Ytaoedejenjfhoaa
