/- The other reader beneath: impl's slow, which gives at most so many bytes at a time. The walk of its Read. -/
import Derived.Test.YteiiocibldpioaaDoorRdB
import Derived.Deep.DeepCutAuto
namespace Go.Proofs.YteiiocibldpioaaDoor
open Go.RowKit

/-- A slow reader in block q over bytes of block sb, pc bytes at a time. -/
def SR (q sb pc : Nat) (w : World) (U : List UInt8) : Prop :=
  ∃ (A : Option Addr) (c : Nat), Blk w q #[.slice A U.length c, .int .i64 pc] 93 ∧ RB w A U ∧ (∀ g o, A = some ⟨g, o, none⟩ → g = sb) ∧ sb < w.heap.size ∧ U.length ≤ c ∧ c ≤ 9223372036854775807
theorem SR.same {q sb pc : Nat} {w w' : World} {U : List UInt8} (h : SR q sb pc w U) (hs : ∀ k, (k = q ∨ k = sb) → w'.heap[k]? = w.heap[k]?) : SR q sb pc w' U := by
  obtain ⟨A, c, h1, h2, h3, h4, h5, h6⟩ := h
  have hsb := hs sb (.inr rfl)
  refine ⟨A, c, h1.same (hs q (.inl rfl)), h2.same (fun g o he _ => ?_), h3, ?_, h5, h6⟩
  · have := h3 g o he; subst this; exact hsb
  · rcases Nat.lt_or_ge sb w'.heap.size with h' | h'
    · exact h'
    · rw [Array.getElem?_eq_none h', Array.getElem?_eq_getElem h4] at hsb; cases hsb
def KS (q sb pc : Nat) : Und where
  rd := .iface 91 (.pointer (some ⟨q, 0, none⟩))
  at_ := SR q sb pc
  own k := k = q ∨ k = sb
  same h hs := h.same hs
  lt h k hk := by
    obtain ⟨A, c, h1, h2, h3, h4, _⟩ := h
    rcases hk with rfl | rfl
    · exact h1.lt
    · exact h4
theorem slRead_end {E : Nat → Addr} {gs : List Nat} {q sb pc : Nat} {w : World} (h : SR q sb pc w []) (hs : Sens w E gs) (hg : 1 ∈ gs) (dst : Value) :
    Calls Tryd.prog 116 #[.pointer (some ⟨q, 0, none⟩), dst] w fun e w' => e = .returned (.tuple #[.int .i64 0, .iface 137 (.pointer (some (E 1)))]) ∧ Only w w' := by
  obtain ⟨A, c, h1, h2, h3, h4, h5, h6⟩ := h
  have c0 : w.cell? ⟨q, 0, none⟩ = some (.slice A 0 c) := h1.cell 0
  have hE := (hs.sen _ hg).cell
  clear h1 h2 h3 h4 h5 hs
  go_enter Tryd.func116, Tryd.ntmps116
  go_wp2
  go_quiet (fail)
  go_wp2
  go_ret2
  exact ⟨rfl, (Only.refl _).drewN _⟩
set_option maxRecDepth 200000 in
theorem slRead_some {q sb pc : Nat} {w : World} {U : List UInt8} (h : SR q sb pc w U) (hU : U ≠ []) {g o m c N : Nat} {L : List UInt8} (hrow : RowB w g N L) (hm : 0 < m) (hpc : 0 < pc) (hmc : m ≤ c) (hm4 : m ≤ 4096) (hN : o + m ≤ N) (hgq : g ≠ q) (hgs : g ≠ sb) (hsq : sb ≠ q) {pm : Nat} (hpm : pm = min m pc) :
    Calls Tryd.prog 116 #[.pointer (some ⟨q, 0, none⟩), .slice (some ⟨g, o, none⟩) m c] w fun e w' =>
      e = .returned (.tuple #[.int .i64 (min U.length pm : Nat), .nilIface]) ∧ SR q sb pc w' (U.drop pm) ∧ RowB w' g N (splice L o (U.take pm)) ∧ Chg (fun k => k = q ∨ k = g) w w' := by
  obtain ⟨A, cc, h1, h2, h3, h4, h5, h6⟩ := h
  have hUl : 0 < U.length := List.length_pos_iff.2 hU
  have c0 : w.cell? ⟨q, 0, none⟩ = some (.slice A U.length cc) := h1.cell 0
  have c1 : w.cell? ⟨q, 1, none⟩ = some (.int .i64 pc) := h1.cell 1
  obtain ⟨sg, so, hA, _⟩ := h2 hU
  subst hA
  obtain rfl := h3 sg so rfl
  obtain ⟨k, hk⟩ : ∃ k, k = min U.length pm := ⟨_, rfl⟩
  rw [← hk]
  have hpm0 : 0 < pm := by omega
  have hpmm : pm ≤ m := by omega
  have hUz : ((U.length : Int) == 0) = false := by rw [beq_eq_false_iff_ne]; omega
  have hmin : (if pc < m then (pc : Int) else (m : Int)) = (pm : Int) := by split <;> omega
  have hp1 : (pm : Int) ≤ (c : Int) := by omega
  have hp0 : (0 : Int) ≤ (pm : Int) := by omega
  have H := Lib.hid (And.intro h1 (And.intro h2 (And.intro h3 (And.intro hrow (And.intro hk hpm)))))
  clear h1 h2 h3 hrow hk hpm
  go_enter Tryd.func116, Tryd.ntmps116
  go_wp2
  refine wp_still_drew 13 Tryd.mixedD (by kernel_rfl) (fun w2 hw2 => ?_)
  have hO2 : Only w w2 := by rw [hw2]; exact (Only.refl w).drew
  clear hw2
  obtain ⟨h1, h2, h3, hrow, hk, hpm⟩ := H.out
  have B2 := h1.same (hO2.at_ q)
  have hK := Lib.hid (And.intro hO2 B2)
  replace c0 : w2.cell? ⟨q, 0, none⟩ = some (.slice (some ⟨sg, so, none⟩) U.length cc) := B2.cell 0
  replace c1 : w2.cell? ⟨q, 1, none⟩ = some (.int .i64 pc) := B2.cell 1
  clear h1 h2 h3 hrow hk hpm hO2 B2
  simp only [List.take_succ_cons, List.take_zero, List.drop_succ_cons, List.drop_zero]
  repeat still_step
  refine wpStill_nil ?_
  obtain ⟨hO2, B2⟩ := hK.out
  obtain ⟨h1, h2, h3, hrow, hk, hpm⟩ := H.out
  refine wpList_copy_B rfl (.tmp 22) (.tmp 26) rfl g o pm c rfl (some ⟨sg, so, none⟩) U.length cc rfl U rfl (h2.same (fun g' _ _ _ => hO2.at_ g')) (hrow.same (hO2.at_ g)) (by omega) k hk ?_
  have hkl : (U.take k).length = k := by rw [List.length_take]; omega
  have R3 : RowB (w2.setCells g o (bts (U.take k))) g N (splice L o (U.take k)) := (hrow.same (hO2.at_ g)).setCells (by rw [hkl]; omega)
  have N3 : ∀ j, j ≠ g → (w2.setCells g o (bts (U.take k))).heap[j]? = w.heap[j]? := fun j hj => (heap_setCells g _ _ _ _ hj).trans (hO2.at_ j)
  have C3 : Chg (fun k => k = q ∨ k = g) w (w2.setCells g o (bts (U.take k))) := ((hO2.chg _).setCells (g := g) (fun _ => .inr rfl) _ _)
  generalize w2.setCells g o (bts (U.take k)) = w3 at R3 N3 C3 ⊢
  have B3 := h1.same (N3 q (Ne.symm hgq))
  have hle : k ≤ U.length := by omega
  have hki : (k : Int) ≤ (U.length : Int) := by omega
  have hkc : k ≤ cc := by omega
  have hki2 : (k : Int) ≤ (cc : Int) := by omega
  clear c0 c1
  have c0 : w3.cell? ⟨q, 0, none⟩ = some (.slice (some ⟨sg, so, none⟩) U.length cc) := B3.cell 0
  have f0 := B3.free 0
  have K2 := Lib.hid (And.intro R3 (And.intro B3 (And.intro C3 (And.intro hkl N3))))
  clear R3 B3 C3 N3 hkl h1 h2 h3 hrow hk hpm hO2 B2 hUz
  go_wp2
  all_goals
    go_ret2
    obtain ⟨R3, B3, C3, hkl, N3⟩ := K2.out
    obtain ⟨h1, h2, h3, hrow, hk, hpm⟩ := H.out
    have hd : U.drop pm = U.drop k := by
      rw [hk]
      rcases Nat.le_total U.length pm with h' | h'
      · rw [Nat.min_eq_left h', List.drop_length, List.drop_eq_nil_of_le h']
      · rw [Nat.min_eq_right h']
    have ht : U.take pm = U.take k := by rw [hk, List.take_eq_take_iff]; omega
    rw [hd, ht]
    have h2' : RB w3 (some ⟨sg, so, none⟩) U := h2.same (fun g' o' he _ => N3 g' (by have := h3 g' o' he; omega))
    refine ⟨rfl, ?_, R3.same (Below.heap_setCell _ _ _ _ hgq), C3.setCell (p := ⟨q, 0, none⟩) (fun _ => .inl rfl) _⟩
    have hs4 : sg < w3.heap.size := Nat.lt_of_lt_of_le h4 C3.size
    have hsq' : ∀ v, (w3.setCell ⟨q, 0, none⟩ v).heap[sg]? = w3.heap[sg]? := fun v => Below.heap_setCell _ _ _ _ hsq
    have hgo : ∀ (x y z : Nat), some (Addr.mk sg x none) = some (Addr.mk y z none) → y = sg := fun x y z e => by cases e; rfl
    first
      | (have hck : cc = k := by assumption
         have hUk : U.drop k = [] := List.drop_eq_nil_of_le (by omega)
         have hz : U.length - k = 0 := by omega
         refine ⟨some ⟨sg, so, none⟩, 0, ?_, by rw [hUk]; exact RB.nil _ _, fun g' o' e => hgo _ g' o' e, by rw [World.size_setCell]; exact hs4, by rw [hUk]; exact Nat.zero_le _, by decide⟩
         have := B3.set 0 (.slice (some ⟨sg, so, none⟩) (U.length - k) 0)
         rw [List.length_drop]
         exact this)
      | (refine ⟨some ⟨sg, so + k, none⟩, cc - k, ?_, (h2'.drop k).same (fun g' o' e _ => by have := hgo _ g' o' e; subst this; exact hsq' _), fun g' o' e => hgo _ g' o' e, by rw [World.size_setCell]; exact hs4, by rw [List.length_drop]; omega, by omega⟩
         have := B3.set 0 (.slice (some ⟨sg, so + k, none⟩) (U.length - k) (cc - k))
         rw [List.length_drop]
         exact this)
end Go.Proofs.YteiiocibldpioaaDoor
