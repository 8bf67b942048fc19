/- The walk of impl.rest: all that a Reader has not read. -/
import Derived.Test.YtfnkkjehkegpgaaDoorRdS
namespace Go.Proofs.YtfnkkjehkegpgaaDoor
open Go.RowKit

theorem Rs.lay {K : Und} {base p bb : Nat} {E : Nat → Addr} {gs : List Nat} {w : World} {S : List UInt8} (h : Rs K base E gs p bb w S) : Lay K base p bb := by
  obtain ⟨B, U, r, z, lb, lr, h, _⟩ := h
  exact h.lay
theorem Rs.size {K : Und} {base p bb : Nat} {E : Nat → Addr} {gs : List Nat} {w : World} {S : List UInt8} (h : Rs K base E gs p bb w S) : base ≤ w.heap.size := by
  obtain ⟨B, U, r, z, lb, lr, h, _⟩ := h
  exact h.size
theorem Rs.S_lt {K : Und} {base p bb : Nat} {E : Nat → Addr} {gs : List Nat} {w : World} {S : List UInt8} (h : Rs K base E gs p bb w S) : ∀ k, Rd.S K p bb k → k < w.heap.size := by
  obtain ⟨B, U, r, z, lb, lr, h, _⟩ := h
  exact h.S_lt
theorem Rs.below {K : Und} {base p bb : Nat} {E : Nat → Addr} {gs : List Nat} {w w' : World} {S : List UInt8} (h : Rs K base E gs p bb w S) {N : Nat} (hb : Below N w w') (hN : ∀ k, Rd.S K p bb k → k < N) : Rs K base E gs p bb w' S := by
  obtain ⟨B, U, r, z, lb, lr, h, e⟩ := h
  exact ⟨B, U, r, z, lb, lr, h.below hb hN, e⟩
theorem readB_any {q sb : Nat} (hqs : sb ≠ q) {base p bb : Nat} {E : Nat → Addr} {gs : List Nat} {w : World} {S : List UInt8} (h : Rs (KB q sb) base E gs p bb w S) (hg : 0 ∈ gs)
    {g N c : Nat} {L : List UInt8} (hrow : RowB w g N L) (hN : 0 < N) (hN' : N < 4096) (hgS : ¬ Rd.S (KB q sb) p bb g) (hgb : base ≤ g) :
    Calls Tryd.prog 36 #[.pointer (some ⟨p, 0, none⟩), .slice (some ⟨g, 0, none⟩) N c] w (ReadEnd (KB q sb) base E gs p bb g N S w) := by
  obtain ⟨B, U, r, z, lb, lr, h, rfl⟩ := h
  by_cases he : B ++ U = []
  · obtain ⟨rfl, rfl⟩ := List.append_eq_nil_iff.1 he
    exact readB_end h hg hrow hN hN' hgS
  · exact readB_some hqs h he hrow hN hN' hgS hgb
theorem Appended.below {w w' : World} {base n c : Nat} {v : Value} {A : Option Addr} {l l0 : List UInt8} (hap : Appended w w' base v A n c l) (hown : OB w base v l0) (hbase : base ≤ w.heap.size) : Below base w w' :=
  (Below.refl _ _).grown hap.grown hbase (fun k hk => (hown.lt k hk).1)
theorem Chg.extend {S : Nat → Prop} {w wr w2 : World} {g : Nat} (h : Chg S w wr) (k : Chg (fun j => S j ∨ j = g) wr w2) (hg : w.heap.size ≤ g) : Chg S w w2 :=
  ⟨k.os.trans h.os, k.tape.trans h.tape, k.output.trans h.output, Nat.le_trans h.size k.size, fun i hi hs => (k.block i (Nat.lt_of_lt_of_le hi h.size) (fun e => by rcases e with e | e; exact hs e; omega)).trans (h.block i hi hs)⟩
/-- The loop's relation. -/
def RestRel (q sb base : Nat) (E : Nat → Addr) (gs : List Nat) (t p bb g M : Nat) (S : List UInt8) (w : World) (k : Nat) (u3 : Value) (wr : World) : Prop :=
  ∃ (acc S1 L : List UInt8), OB wr M u3 acc ∧ acc ++ S1 = S ∧ S1.length + 1 ≤ k ∧ Rs (KB q sb) base E gs p bb wr S1 ∧ RowB wr g 500 L ∧ wr.cell? ⟨t, 0, none⟩ = some (.pointer (some ⟨p, 0, none⟩)) ∧ Chg (Rd.S (KB q sb) p bb) w wr ∧ M ≤ wr.heap.size
set_option maxRecDepth 200000 in
set_option maxHeartbeats 1000000 in
theorem rest_chg {q sb : Nat} (hqs : sb ≠ q) {base t p bb : Nat} {E : Nat → Addr} {gs : List Nat} {w : World} {S : List UInt8} {buf : Value} (h : Tp (KB q sb) base E gs t p bb buf w S) (hg : 0 ∈ gs) (hS : S.length ≤ 140737488355328) :
    Calls Tryd.prog 23 #[.pointer (some ⟨t, 0, none⟩)] w fun e w' => RetB w' S e ∧ Chg (Rd.S (KB q sb) p bb) w w' := by
  obtain ⟨hbt, hts, hT, hR⟩ := h
  replace hR : Rs (KB q sb) base E gs p bb w S := hR
  have hmk : ∀ w, (Instr.makeSlice 23 (.int .i64 500) (.int .i64 500)).run Tryd.prog w = .ok (.slice (some ⟨w.heap.size, 0, none⟩) 500 500) (w.alloc (.cells (zeroRow 500) 5)) := fun w => Tryd.mkB 500 (by decide) w
  have H := Lib.hid (And.intro hbt (And.intro hts (And.intro hT hR)))
  clear hbt hts hT hR
  go_enter Tryd.func23, Tryd.ntmps23
  go_wp2
  go_loopg [3, 5, 6] (S.length + 1) (fun k u3 _ _ wr => RestRel q sb base E gs t p bb w.heap.size (w.heap.size + 1) S w k u3 wr)
  case atStart =>
    obtain ⟨hbt, hts, hT, hR⟩ := H.out
    have hb : Below w.heap.size w (w.alloc (.cells (zeroRow 500) 5)) := (Below.refl _ _).alloc (Nat.le_refl _) _
    exact ⟨[], S, _, OB.nil _ _, rfl, Nat.le_refl _, hR.below hb hR.S_lt, RowB.zero (Blk.new _ _ _), hT.c0.symm ▸ (hb.cell (p := ⟨t, 0, none⟩) hT.lt), (Chg.refl _ _).alloc _, by simp⟩
  case round =>
    obtain ⟨acc, S1, L, hown, hacc, hk, hR1, hrow, hc, hb, hM⟩ := hrel
    obtain ⟨A0, c0, hu0, _, _, _⟩ := hown.form
    subst hu0
    have hgS : ¬ Rd.S (KB q sb) p bb w.heap.size := fun e => by have := H.out.2.2.2.S_lt _ e; omega
    have hrd := readB_any hqs hR1 hg (c := 500) hrow (by decide) (by decide) hgS H.out.2.2.2.size
    have HD := Lib.hid hrd
    have HK := Lib.hid (And.intro hown (And.intro hacc (And.intro hk (And.intro hR1 (And.intro hrow (And.intro hc (And.intro hb (And.intro hM hgS))))))))
    clear hrd hown hacc hk hR1 hrow hb hM hgS
    go_wp2_with (go_at_call 36; refine HD.out.mono ?_; rintro e w2 ⟨X, S2, L2, hX, hXl, rfl, hXn, hrow2, hLX, hR2, hC2⟩; refine Hid.out ?_)
    have hL2 := Lib.hid (And.intro hX (And.intro hXn (And.intro hrow2 (And.intro hLX (And.intro hR2 hC2)))))
    have hXi : (X.length : Int) ≤ 500 := by omega
    obtain ⟨hown, hacc, hk, hR1, hrow, hcc, hb, hM, hgS⟩ := HK.out
    have hrb : RB w2 (some ⟨w.heap.size, 0, none⟩) X := hrow2.rb 0 X (by simpa using hLX) (by omega)
    have hown2 : OB w2 (w.heap.size + 1) (.slice A0 acc.length c0) acc := hown.chg hC2 (fun k hk => by
      rcases hk with hk | hk
      · have := H.out.2.2.2.S_lt k hk; omega
      · omega)
    have hal : acc.length + X.length ≤ 140737488355328 := by rw [← hacc, hX] at hS; simp at hS; omega
    have hM2 : w.heap.size + 1 ≤ w2.heap.size := Nat.le_trans hM hC2.size
    have HA := Lib.hid (And.intro hrb (And.intro hown2 (And.intro hal hM2)))
    clear hX hXn hrow2 hLX hR2 hC2 hown hacc hk hR1 hrow hcc hb hM hgS hrb hown2 hal hM2 hc
    rcases X with _ | ⟨x, X⟩
    · refine Lib.hid ?_
      simp only [endEr, Er.val, List.length_nil]
      go_simp
      go_wp2_with (refine at_appendB ?_; refine wpList_append_B rfl (.tmp 17) (.tmp 20) rfl (w.heap.size + 1) (.slice A0 acc.length c0) acc rfl HA.out.2.1 (some ⟨w.heap.size, 0, none⟩) [] 0 500 rfl rfl HA.out.1 HA.out.2.2.1 HA.out.2.2.2 acc.length (by simp) acc (by simp) ?_; intro A3 c3 w3 hap; have HP := Lib.hid hap; clear hap)
      go_ret
      obtain ⟨hX, hXn, hrow2, hLX, hR2, hC2⟩ := hL2.out
      obtain ⟨hown, hacc, hk, hR1, hrow, hcc, hb, hM, hgS⟩ := HK.out
      have hap := HP.out
      have hS1 : S1 = [] := hXn (by trivial)
      rw [hS1, List.append_nil] at hacc
      refine ⟨RetB.mk hacc hap.le hap.le' hap.read, ?_⟩
      exact (hb.extend hC2 (Nat.le_refl _)).of_below (hap.below HA.out.2.1 HA.out.2.2.2) (fun k hk _ => by omega)
    · refine Lib.hid ?_
      simp only [endEr, Er.val]
      generalize hY : x :: X = Y at *
      have HY := Lib.hid hY
      clear hY
      go_simp
      go_wp2_with (refine at_appendB ?_; refine wpList_append_B rfl (.tmp 17) (.tmp 20) rfl (w.heap.size + 1) (.slice A0 acc.length c0) acc rfl HA.out.2.1 (some ⟨w.heap.size, 0, none⟩) Y Y.length 500 rfl rfl HA.out.1 HA.out.2.2.1 HA.out.2.2.2 _ rfl _ rfl ?_; intro A3 c3 w3 hap; have HP := Lib.hid hap; clear hap)
      obtain ⟨hX, hXn, hrow2, hLX, hR2, hC2⟩ := hL2.out
      obtain ⟨hown, hacc, hk, hR1, hrow, hcc, hb, hM, hgS⟩ := HK.out
      have hap := HP.out
      have hYl : 0 < Y.length := by rw [← HY.out]; simp
      have hb3 := hap.below HA.out.2.1 HA.out.2.2.2
      have hsz := H.out.2.2.2.size
      have hC3 : Chg (fun k => Rd.S (KB q sb) p bb k ∨ k = w.heap.size) wr w2 := hC2
      go_roundg (S2.length + 1)
      case measure => rw [hX] at hk; simp at hk; omega
      case rel =>
        refine ⟨acc ++ Y, S2, L2, hap.own, ?_, Nat.le_refl _, hR2.below hb3 (fun k hk => by have := H.out.2.2.2.S_lt k hk; omega), hrow2.same (hb3.block _ (by omega)), ?_, ?_, ?_⟩
        · rw [List.append_assoc, ← hX, hacc]
        · have ht := H.out.2.2.1.lt
          rw [hb3.cell (p := ⟨t, 0, none⟩) (by show t < _; omega), World.cell?_of_block (hC3.block t (by have := hb.size; omega) (fun e => by rcases e with e | e; exact H.out.2.1 e; omega))]
          exact hcc
        · exact (hb.extend hC3 (Nat.le_refl _)).of_below hb3 (fun k hk _ => by omega)
        · have := hap.grown.size; have := HA.out.2.2.2; omega
theorem rest_any {q sb : Nat} (hqs : sb ≠ q) {base t p bb : Nat} {E : Nat → Addr} {gs : List Nat} {w : World} {S : List UInt8} {buf : Value} (h : Tp (KB q sb) base E gs t p bb buf w S) (hg : 0 ∈ gs) (hS : S.length ≤ 140737488355328) :
    Calls Tryd.prog 23 #[.pointer (some ⟨t, 0, none⟩)] w fun e w' => RetB w' S e ∧ Below base w w' :=
  (rest_chg hqs h hg hS).mono fun _ _ ⟨h1, h2⟩ => ⟨h1, h.frame h2⟩
end Go.Proofs.YtfnkkjehkegpgaaDoor
