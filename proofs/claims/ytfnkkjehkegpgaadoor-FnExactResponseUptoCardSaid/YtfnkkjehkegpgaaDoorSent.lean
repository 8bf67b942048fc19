/- The error values of this program: the package's sentinels (variables that hold pointers to errors of their own), the errors of the protocol and of a status, and nil. What the row's laid list says of the sentinels, and what == answers of two of them. -/
import Derived.Test.YtfnkkjehkegpgaaDoorBase
import Derived.Test.YtfnkkjehkegpgaaDoorRows
import Derived.Stop.LaidTwo
import Derived.Stop.Asserts
import Derived.MakeChecks
import Derived.LaidSub
namespace Go.Proofs.YtfnkkjehkegpgaaDoor
open Go.RowKit

/-- The variable g holds an error of its own: a pointer to a. -/
structure Sen (w : World) (g : Nat) (a : Addr) : Prop where
  cell : w.cell? ⟨g, 0, none⟩ = some (.iface 118 (.pointer (some a)))
  row : ∃ c t, w.heap[a.block]? = some (.cells c t (0, 0))
theorem Sen.of_blocks {w w' : World} {g : Nat} {a : Addr} (h : Sen w g a) (h1 : w'.heap[g]? = w.heap[g]?) (h2 : w'.heap[a.block]? = w.heap[a.block]?) : Sen w' g a := by
  refine ⟨(World.cell?_of_block (w := w) (a := ⟨g, 0, none⟩) h1).trans h.cell, ?_⟩
  rw [h2]; exact h.row
theorem Sen.lt {w : World} {g : Nat} {a : Addr} (h : Sen w g a) : g < w.heap.size := World.block_lt_of_cell? _ _ h.cell
theorem Sen.lt' {w : World} {g : Nat} {a : Addr} (h : Sen w g a) : a.block < w.heap.size := by
  obtain ⟨c, t, hr⟩ := h.row
  exact (Array.getElem?_eq_some_iff.1 hr).1

/-- The variables gs hold errors of their own, no two of them the same. -/
structure Sens (w : World) (E : Nat → Addr) (gs : List Nat) : Prop where
  sen : ∀ g ∈ gs, Sen w g (E g)
  inj : (gs.map E).Nodup
theorem Sens.ne {w : World} {E : Nat → Addr} {gs : List Nat} (h : Sens w E gs) {g k : Nat} (hg : g ∈ gs) (hk : k ∈ gs) (hne : g ≠ k) : E g ≠ E k := by
  have hi := h.inj
  clear h
  induction gs with
  | nil => cases hg
  | cons x r ih =>
    rw [List.map_cons, List.nodup_cons] at hi
    rcases List.mem_cons.1 hg with rfl | hg'
    · rcases List.mem_cons.1 hk with rfl | hk'
      · exact absurd rfl hne
      · intro e
        exact hi.1 (e ▸ List.mem_map_of_mem hk')
    · rcases List.mem_cons.1 hk with rfl | hk'
      · intro e
        exact hi.1 (e ▸ List.mem_map_of_mem hg')
      · exact ih hg' hk' hi.2
theorem Sens.below {w w' : World} {E : Nat → Addr} {gs : List Nat} (h : Sens w E gs) (hb : Below w.heap.size w w') : Sens w' E gs :=
  ⟨fun g hg => (h.sen g hg).of_blocks (hb.block _ (h.sen g hg).lt) (hb.block _ (h.sen g hg).lt'), h.inj⟩
theorem Sens.of_blocks {w w' : World} {E : Nat → Addr} {gs : List Nat} (h : Sens w E gs) (hb : ∀ g ∈ gs, w'.heap[g]? = w.heap[g]? ∧ w'.heap[(E g).block]? = w.heap[(E g).block]?) : Sens w' E gs :=
  ⟨fun g hg => (h.sen g hg).of_blocks (hb g hg).1 (hb g hg).2, h.inj⟩

/-- What a variable points at. -/
def senAt (w : World) (g : Nat) : Addr := match w.cell? ⟨g, 0, none⟩ with | some (.iface _ (.pointer (some a))) => a | _ => ⟨0, 0, none⟩
theorem senAt_eq {w : World} {g : Nat} {a : Addr} {t : TypeId} (h : w.cell? ⟨g, 0, none⟩ = some (.iface t (.pointer (some a)))) : senAt w g = a := by
  unfold senAt; rw [h]

theorem Tryd.es_ti : Tryd.prog.underlying 47 = some (.interface #[("Error", 69)]) := Tryd.underlying47
theorem Tryd.es_star : "*" ++ "errors.errorString" = "*errors.errorString" := by decide
theorem Tryd.es_hrow (u : TypeId) (h : Tryd.prog.typeName? 3 u = some "*errors.errorString") : u = 118 :=
  typeName_ptr_named (nm := "errors.errorString") (by rw [Tryd.es_star]; kernel_rfl) (by kernel_rfl) (by decide) u (by rw [Tryd.es_star]; exact h)

/-- A listed variable is a sentinel. -/
def isSent (x : String × DataW Unit) : Bool := match x.2 with | .iface nm (.ptr (.agg [.lit (.string _)])) => nm == "*errors.errorString" | _ => false
def gOf (P : Program) (x : String × DataW Unit) : Nat := (P.globalNamed x.1).getD 0
theorem isSent_eq {x : String × DataW Unit} (h : isSent x = true) : ∃ n text, x = (n, .iface "*errors.errorString" (.ptr (.agg [.lit (.string text)]))) := by
  obtain ⟨n, d⟩ := x
  unfold isSent at h
  split at h
  · rename_i nm text hd
    simp only at hd
    subst hd
    exact ⟨n, text, by rw [beq_iff_eq.1 h]⟩
  · cases h

set_option maxRecDepth 100000 in
open Go.ChangeShapes in
theorem sens_vars {W : World} : ∀ {l : List (String × DataW Unit)} {ps : List MemPlace}, DataW.LaidVars Tryd.prog W l ps → ps.Nodup →
    (∀ b off, MemPlace.cell b off ∈ ps → (∃ c t, W.heap[b]? = some (.cells c t (0, 0))) ∧ ∀ u v, W.cell? ⟨b, off, none⟩ = some (.iface u v) → Value.okWide Tryd.prog W .any 0 u v) →
    (l.all fun x => !isSent x || ((Tryd.prog.globals[gOf Tryd.prog x]?).map (·.type) == some 47)) = true →
    (∀ g ∈ (l.filter isSent).map (gOf Tryd.prog), Sen W g (senAt W g) ∧ MemPlace.cell (senAt W g).block (senAt W g).off ∈ ps) ∧ (((l.filter isSent).map (gOf Tryd.prog)).map (senAt W)).Nodup
  | [], _, _, _, _, _ => ⟨fun _ h => by simp at h, by simp⟩
  | x :: r, ps, h, hnd, hrows, hall => by
    obtain ⟨n, d⟩ := x
    obtain ⟨g0, t0, cs0, f0, p0, q0, hg0, ht0, hv0, hd0, hq, rfl⟩ := h
    rw [List.nodup_append] at hnd
    obtain ⟨hnd0, hndq, hdis⟩ := hnd
    simp only [List.all_cons, Bool.and_eq_true] at hall
    obtain ⟨ih, ihn⟩ := sens_vars hq hndq (fun b off hm => hrows b off (List.mem_append_right _ hm)) hall.2
    by_cases hs : isSent (n, d) = true
    · obtain ⟨n', text, he⟩ := isSent_eq hs
      injection he with e1 e2
      subst e1; subst e2
      have hg : gOf Tryd.prog (n, .iface "*errors.errorString" (.ptr (.agg [.lit (.string text)]))) = g0 := by unfold gOf; rw [hg0]; rfl
      have ht : (Tryd.prog.globals[g0]?).map (·.type) = some 47 := by
        have := hall.1
        rw [hs, hg] at this
        simpa using this
      have ht' : t0 = 47 := (Option.some.inj (ht.symm.trans ht0)).symm
      subst ht'
      obtain ⟨l0⟩ := cs0
      have ok0 : ∀ u v, l0 = [.iface u v] → Value.okWide Tryd.prog W .any 0 u v := fun u v e => by
        subst e
        exact (hrows g0 0 (by simp [MemPlace.row])).2 u v (by simpa using World.var?_cell hg0 hv0 0)
      obtain ⟨a0, s0, rfl, hc0, hs0, hz0, rfl⟩ := errorString_of_trod Tryd.es_ti Tryd.es_hrow Tryd.underlying118 Tryd.underlying120 rfl rfl Tryd.underlying9 (by kernel_rfl) (by kernel_rfl) hd0 ok0
      have hcell : W.cell? ⟨g0, 0, none⟩ = some (.iface 118 (.pointer (some a0))) := by simpa using World.var?_cell hg0 hv0 0
      have hat : senAt W g0 = a0 := senAt_eq hcell
      have hmem : MemPlace.cell a0.block a0.off ∈ MemPlace.row a0 1 := by simp [MemPlace.row]
      rw [List.filter_cons_of_pos hs]
      simp only [List.map_cons, hg, List.mem_cons, List.nodup_cons, hat]
      refine ⟨fun g hgm => ?_, fun hm => ?_, ihn⟩
      · rcases hgm with rfl | hgm
        · rw [hat]
          exact ⟨⟨hcell, (hrows a0.block a0.off (List.mem_append_left _ (List.mem_append_right _ hmem))).1⟩, List.mem_append_left _ (List.mem_append_right _ hmem)⟩
        · exact ⟨(ih g hgm).1, List.mem_append_right _ (ih g hgm).2⟩
      · obtain ⟨k, hk, hke⟩ := List.mem_map.1 hm
        have := (ih k hk).2
        rw [hke] at this
        exact hdis _ (List.mem_append_right _ hmem) _ this rfl
    · rw [List.filter_cons_of_neg hs]
      exact ⟨fun g hgm => ⟨(ih g hgm).1, List.mem_append_right _ (ih g hgm).2⟩, ihn⟩

/-- What the row's list says of the sentinels. -/
theorem sens_of_laid {W : World} {l : List (String × DataW Unit)} {gs : List Nat} (h : laidMetH Tryd.prog l W) (hp : (l.all fun x => x.2.handleName?.isNone) = true)
    (hall : (l.all fun x => !isSent x || ((Tryd.prog.globals[gOf Tryd.prog x]?).map (·.type) == some 47)) = true) (hgs : (l.filter isSent).map (gOf Tryd.prog) = gs) : Sens W (senAt W) gs := by
  rw [MakeChecks.laidMetH_plain _ _ _ hp] at h
  obtain ⟨ps, hv, hnd, hrows⟩ := h
  obtain ⟨h1, h2⟩ := sens_vars hv hnd hrows hall
  rw [hgs] at h1 h2
  exact ⟨fun g hg => (h1 g hg).1, h2⟩
theorem Sens.sub {w : World} {E : Nat → Addr} {gs : List Nat} (h : Sens w E gs) : ∀ {gs' : List Nat}, (∀ g ∈ gs', g ∈ gs) → gs'.Nodup → Sens w E gs'
  | [], _, _ => ⟨fun _ h => (by cases h), List.nodup_nil⟩
  | x :: r, hs, hn => by
    rw [List.nodup_cons] at hn
    have ih := Sens.sub h (fun g hg => hs g (List.mem_cons_of_mem _ hg)) hn.2
    refine ⟨fun g hg => h.sen g (hs g hg), ?_⟩
    rw [List.map_cons, List.nodup_cons]
    refine ⟨fun hm => ?_, ih.inj⟩
    obtain ⟨k, hk, hke⟩ := List.mem_map.1 hm
    exact h.ne (hs k (List.mem_cons_of_mem _ hk)) (hs x (List.mem_cons_self ..)) (fun e => hn.1 (e ▸ hk)) hke
end Go.Proofs.YtfnkkjehkegpgaaDoor
