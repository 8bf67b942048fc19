/- The walk of the reference's DotText: the block of lines. -/
import Derived.Test.YteiiocibldpioaaDoorSpecL
import Derived.Deep.LoopGhost
namespace Go.Proofs.YteiiocibldpioaaDoor
open Go.RowKit

theorem strCells_bts (l : List UInt8) : Lib.strCells ⟨l.toArray⟩ = bts l := by simp [Lib.strCells, bts]
theorem RB.one' (w : World) (b : UInt8) (t : TypeId) (g : Nat) (hg : g = w.heap.size) : RB (w.alloc (.cells #[.int .u8 b.toNat] t)) (some ⟨g, 0, none⟩) [b] := by
  subst hg
  intro _
  refine ⟨_, _, rfl, fun i u hu => ?_⟩
  rcases i with _ | i
  · simp at hu; subst hu; simp
  · simp at hu
theorem run_append_BS (ty : TypeId) (w : World) (base : Nat) (v : Value) (l m : List UInt8) (hown : OB w base v l) (hlen : l.length + m.length ≤ 140737488355328) (hbase : base ≤ w.heap.size) :
    ∃ v' w', (Builtin.append_ #[24, 9] ty #[v, .string ⟨m.toArray⟩]).run Tryd.prog w = .ok v' w' ∧ OB w' base v' (l ++ m) ∧ w.grownBy w' v.ownBlock := by
  obtain ⟨i0, hi, hz0, hz1, hz2⟩ := info_parts Tryd.infoU
  obtain ⟨v', w', h1, h2, h3, _⟩ := Lib.run_append_own_string (P := Tryd.prog) w base 24 9 ty 5 i0 Tryd.underlying24 Tryd.underlying9 hi hz0 hz1 hz2 v l.length (bts l) hown ⟨m.toArray⟩ (by rw [mk_size]; unfold maxLen; omega) (by rw [mk_size]; omega) hbase
  refine ⟨v', w', h1, ?_, h3⟩
  unfold OB
  rw [bts_append, List.length_append, ← strCells_bts m]
  exact h2
/-- 'append(b, s...)', s a string. -/
theorem wpList_append_BS {ops : Array Oper} {Q : Exit → Act → World → Prop} {a : Act} {w : World} {rest : List Oper} {o : Oper}
    (hw : Region.wanted o (yielded ops a.tmps) = true) (s x : Operand) (ho : o.op = .call { callee := .builtin .append, args := #[s, x], argTypes := #[24, 9] })
    (base : Nat) (v : Value) (l : List UInt8) (hs : a.eval s = v) (hown : OB w base v l) (m : List UInt8) (hx : a.eval x = .string ⟨m.toArray⟩)
    (hlen : l.length + m.length ≤ 140737488355328) (hbase : base ≤ w.heap.size) (k : Nat) (hk : k = l.length + m.length)
    (h : ∀ A' c' w', OB w' base (.slice A' k c') (l ++ m) → k ≤ c' → c' ≤ 9223372036854775807 → RB w' A' (l ++ m) → Below base w w' → wpList Tryd.prog ops Q rest (a.put o.dst (.slice A' k c')) w') : wpList Tryd.prog ops Q (o :: rest) a w := by
  subst hk
  obtain ⟨v', w', h1, h2, h3⟩ := run_append_BS o.type w base v l m hown hlen hbase
  obtain ⟨A', c', rfl, hc, hc', hr'⟩ := h2.form
  rw [List.length_append] at h1 h2 hc
  exact wpList_value hw (exec_builtin2 ho hs hx h1) (h A' c' w' h2 hc hc' hr' ((Below.refl _ _).grown h3 hbase (fun k hk => (hown.lt k hk).1)))
theorem at_appendBS {P : Program} {ops : Array Oper} {Q : Exit → Act → World → Prop} {a : Act} {w : World} {rest : List Oper} {d : Option Tmp} {s x : Operand} {t : TypeId} {p : String} {af : Array Edge} {g : Option (Nat × Bool)}
    (h : wpList P ops Q (⟨d, .call ⟨.builtin .append, #[s, x], #[24, 9]⟩, t, p, af, g⟩ :: rest) a w) : wpList P ops Q (⟨d, .call ⟨.builtin .append, #[s, x], #[24, 9]⟩, t, p, af, g⟩ :: rest) a w := h

/-- The lines of a block, without its end. -/
def dtx (ls : List (List UInt8)) : List UInt8 := ls.flatMap fun l => esc l ++ [13, 10]
theorem dtx_snoc (ls : List (List UInt8)) (k : Nat) (h : k < ls.length) : dtx (ls.take (k + 1)) = dtx (ls.take k) ++ (esc ls[k] ++ [13, 10]) := by
  unfold dtx
  rw [List.take_succ_eq_append_getElem h, List.flatMap_append]
  simp
theorem esc_le (l : List UInt8) : (esc l).length ≤ l.length + 1 := by unfold esc; split <;> simp
theorem dtx_le (ls : List (List UInt8)) (N : Nat) (h : ∀ l ∈ ls, l.length ≤ N) : (dtx ls).length ≤ ls.length * (N + 3) := by
  induction ls with
  | nil => simp [dtx]
  | cons l t ih =>
    have h1 := h l (List.mem_cons_self ..)
    have h2 := ih (fun x hx => h x (List.mem_cons_of_mem _ hx))
    have h3 := esc_le l
    have e : dtx (l :: t) = esc l ++ [13, 10] ++ dtx t := by simp [dtx]
    rw [e, List.length_append, List.length_append]
    show _ ≤ (t.length + 1) * (N + 3)
    rw [Nat.add_mul]
    simp only [List.length_cons, List.length_nil]
    omega
set_option maxRecDepth 200000 in
set_option maxHeartbeats 1000000 in
theorem specDotText_any {w : World} {A : Option Addr} {n c : Nat} {ls : List (List UInt8)} (hr : SL w A ls) (hn : n = ls.length) (hl : ∀ l ∈ ls, l.length ≤ 16777216) (hm : ls.length ≤ 65536) :
    Calls Tryd.prog 19 #[.slice A n c] w fun e w' => (∃ A' c', e = .returned (.slice A' (dotText ls).length c') ∧ OB w' w.heap.size (.slice A' (dotText ls).length c') (dotText ls) ∧ RB w' A' (dotText ls)) ∧ Below w.heap.size w w' := by
  subst hn
  have HX := Lib.hid (And.intro hr hl)
  clear hr hl
  go_enter Tryd.func19, Tryd.ntmps19
  go_wp2
  go_loopg [3, 5, 8] (ls.length) (fun gk u _ i wr => ∃ k : Nat, k + gk = ls.length ∧ i = .int .i64 k ∧ OB wr w.heap.size u (dtx (ls.take k)) ∧ Below w.heap.size w wr)
  case atStart => exact ⟨0, by omega, rfl, OB.nil _ _, Below.refl _ _⟩
  case round =>
    obtain ⟨k, hk, rfl, hown, hb⟩ := hrel
    obtain ⟨A0, c0, hu0, _, _, _⟩ := hown.form
    subst hu0
    have hlen := dtx_le (ls.take k) 16777216 (fun l hx => HX.out.2 l (List.mem_of_mem_take hx))
    rw [List.length_take] at hlen
    have hdl : (dtx (ls.take k)).length ≤ 1099511824384 := by
      have : min k ls.length * (16777216 + 3) ≤ 65536 * 16777219 := Nat.mul_le_mul (by omega) (by omega)
      omega
    have hsz : w.heap.size ≤ wr.heap.size := hb.size
    by_cases hlt : k < ls.length
    · obtain ⟨s, hs⟩ : ∃ s, s = ls[k] := ⟨_, rfl⟩
      have hne : ls ≠ [] := by rintro rfl; simp at hlt
      obtain ⟨g, o, rfl, hx⟩ := (HX.out.1.below hb) hne
      have hcell : wr.cell? ⟨g, o + k, none⟩ = some (.string ⟨s.toArray⟩) := by rw [hs]; exact hx k ls[k] (List.getElem?_eq_getElem hlt)
      have hsl : s.length ≤ 16777216 := by rw [hs]; exact HX.out.2 _ (List.getElem_mem hlt)
      have hsn := dtx_snoc ls k hlt
      rw [← hs] at hsn
      have HS := Lib.hid (And.intro hsn (And.intro hown hb))
      generalize dtx (ls.take k) = D at *
      clear hs hsn hx hown hb hlen hne
      rcases s with _ | ⟨x, tl⟩
      · go_wp2_with ((with_reducible refine at_appendBS ?_); refine wpList_append_BS rfl (.tmp 22) (.tmp 24) rfl w.heap.size (.slice A0 D.length c0) D rfl HS.out.2.1 [13, 10] rfl (by simp; omega) hsz _ rfl ?_; intro A3 c3 w3 ho3 _ _ _ hb3; have H3 := Lib.hid (And.intro ho3 hb3); clear ho3 hb3)
        go_roundg (gk - 1)
        case measure => omega
        case rel => exact ⟨k + 1, by omega, by go_num, by rw [HS.out.1]; exact H3.out.1, HS.out.2.2.trans H3.out.2⟩
      · by_cases hx : x = 46
        · subst hx
          have he : esc (46 :: tl) = 46 :: 46 :: tl := by simp [esc]
          rw [he] at HS
          have h46 : RB (wr.alloc (.cells #[.int .u8 46] 5)) (some ⟨wr.heap.size, 0, none⟩) [46] := RB.one' wr 46 5 _ rfl
          have HB := Lib.hid h46
          have hsl2 : tl.length + 1 ≤ 16777216 := hsl
          clear he h46 hsl
          go_wp2_with (first
            | ((with_reducible refine at_appendB ?_); refine wpList_append_B rfl (.tmp 19) (.tmp 20) rfl w.heap.size (.slice A0 D.length c0) D rfl (HS.out.2.1.alloc _) (some ⟨wr.heap.size, 0, none⟩) [46] 1 1 rfl rfl HB.out (by simp; omega) (by simp; omega) (D.length + 1) rfl (D ++ [46]) rfl ?_; intro A2 c2 w2 hap; have HP := Lib.hid hap; clear hap)
            | ((with_reducible refine at_appendBS ?_); refine wpList_append_BS rfl (.tmp 22) (.tmp 24) rfl w.heap.size (.slice A2 (D.length + 1) c2) (D ++ [46]) rfl HP.out.own (46 :: (tl ++ [13, 10])) rfl (by simp; omega) (by have := HP.out.grown.size; simp at this; omega) (D.length + (tl.length + 4)) (by simp; omega) ?_; intro A3 c3 w3 ho3 _ _ _ hb3; have H3 := Lib.hid (And.intro ho3 hb3); clear ho3 hb3))
          go_roundg (gk - 1)
          case measure => omega
          case rel =>
            refine ⟨k + 1, by omega, by go_num, ?_, (HS.out.2.2.trans ((Below.refl _ _).alloc hsz _)).trans ((((Below.refl _ _).grown HP.out.grown (by simp; omega) (fun k hk => (HS.out.2.1.lt k hk).1))).trans H3.out.2)⟩
            have h3 := H3.out.1
            rw [HS.out.1]
            have e : D ++ (46 :: 46 :: tl ++ [13, 10]) = D ++ [46] ++ 46 :: (tl ++ [13, 10]) := by simp
            rw [e]
            exact h3
        · have he : esc (x :: tl) = x :: tl := by simp [esc, hx]
          rw [he] at HS
          have hxi : ((x.toNat : Int) == 46) = false := by rw [beq_eq_false_iff_ne]; exact fun e => hx ((byte_eq_iff x 46).1 e)
          have hsl2 : tl.length + 1 ≤ 16777216 := hsl
          clear he hsl
          go_wp2_with ((with_reducible refine at_appendBS ?_); refine wpList_append_BS rfl (.tmp 22) (.tmp 24) rfl w.heap.size (.slice A0 D.length c0) D rfl HS.out.2.1 (x :: (tl ++ [13, 10])) rfl (by simp; omega) hsz (D.length + (tl.length + 3)) (by simp) ?_; intro A3 c3 w3 ho3 _ _ _ hb3; have H3 := Lib.hid (And.intro ho3 hb3); clear ho3 hb3)
          go_roundg (gk - 1)
          case measure => omega
          case rel => exact ⟨k + 1, by omega, by go_num, by rw [HS.out.1]; exact H3.out.1, HS.out.2.2.trans H3.out.2⟩
    · have hk2 : ls.take k = ls := List.take_of_length_le (by omega)
      rw [hk2] at hown hdl ⊢
      have HS := Lib.hid (And.intro hown hb)
      have hdt : dotText ls = dtx ls ++ [46, 13, 10] := rfl
      have hdl2 : (dotText ls).length = (dtx ls).length + 3 := by rw [hdt, List.length_append]; rfl
      have HT := Lib.hid (And.intro hdt hdl2)
      clear hdt hdl2 hown hb hlen hk2
      generalize dtx ls = D at *
      go_wp2_with ((with_reducible refine at_appendBS ?_); refine wpList_append_BS rfl (.tmp 27) (.const (.string ⟨#[46, 13, 10]⟩)) rfl w.heap.size (.slice A0 D.length c0) D rfl HS.out.1 [46, 13, 10] rfl (by simp; omega) hsz _ rfl ?_; intro A3 c3 w3 ho3 _ _ hr3 hb3; have H3 := Lib.hid (And.intro ho3 (And.intro hr3 hb3)); clear ho3 hr3 hb3)
      go_ret
      refine ⟨⟨A3, c3, ?_, ?_, ?_⟩, HS.out.2.trans H3.out.2.2⟩
      · rw [HT.out.2]; rfl
      · rw [HT.out.2, HT.out.1]; exact H3.out.1
      · rw [HT.out.1]; exact H3.out.2.1
end Go.Proofs.YteiiocibldpioaaDoor
