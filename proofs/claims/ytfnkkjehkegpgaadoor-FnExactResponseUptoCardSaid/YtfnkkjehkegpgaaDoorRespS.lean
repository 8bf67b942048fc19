/- The walks of the reference's answers: the bounds, Answer, AnswerText, Message. -/
import Derived.Test.YtfnkkjehkegpgaaDoorOpenA
import Derived.Test.YtfnkkjehkegpgaaDoorRespLw
import Derived.Test.YtfnkkjehkegpgaaDoorRdM
import Derived.Deep.LoopGhost
import Derived.Deep.DeepCutAuto
namespace Go.Proofs.YtfnkkjehkegpgaaDoor
open Go.RowKit

theorem byte_bneA (a b : UInt8) : ((a.toNat : Int) != (b.toNat : Int)) = (a != b) := by
  by_cases h : a = b
  · subst h; simp
  · have h2 : (a.toNat : Int) ≠ (b.toNat : Int) := fun e => h ((byte_eq_iff a b).1 e)
    rw [bne_iff_ne.2 h2, bne_iff_ne.2 h]
theorem byte_beqA (a b : UInt8) : ((a.toNat : Int) == (b.toNat : Int)) = (a == b) := by
  by_cases h : a = b
  · subst h; simp
  · have h2 : (a.toNat : Int) ≠ (b.toNat : Int) := fun e => h ((byte_eq_iff a b).1 e)
    rw [beq_eq_false_iff_ne.2 h2, beq_eq_false_iff_ne.2 h]
/-- Some Boolean. -/
def BoolEnd (e : Ending) : Prop := ∃ b, e = .returned (.bool b)
set_option maxRecDepth 200000 in
theorem zzFits7_any (l : AnsL) (hl : l.t.length ≤ 9223372036854775807) (w : World) :
    Calls Tryd.prog 19 #[.agg #[.string ⟨l.t.toArray⟩, .bool l.bare]] w fun e w' => BoolEnd e ∧ Below w.heap.size w w' := by
  by_cases hb : l.t.length ≤ 2147483647
  all_goals
    go_enter Tryd.func19, Tryd.ntmps19
    go_wp2
    go_ret
    exact ⟨⟨_, rfl⟩, (Below.refl _ _).alloc (Nat.le_refl _) _⟩
set_option maxRecDepth 200000 in
set_option maxHeartbeats 1600000 in
theorem zzFits6_any {w : World} {A : Option Addr} {n c : Nat} {ls : List AnsL} (hr : AL w A ls) (hn : n = ls.length) (hl : ∀ l ∈ ls, l.t.length ≤ 9223372036854775807) (hm : ls.length ≤ 9223372036854775807) :
    Calls Tryd.prog 8 #[.slice A n c] w fun e w' => BoolEnd e ∧ Below w.heap.size w w' := by
  subst hn
  by_cases hbig : ls.length ≤ 2147483647
  · by_cases hne : ls = []
    · subst hne
      clear hr hl
      go_enter Tryd.func8, Tryd.ntmps8
      go_wp2
      go_loop [10] (fun i => i = .int .i64 0) (fun _ => 0)
      case atStart => rfl
      case round =>
        subst hrel
        go_wp2
        go_ret
        exact ⟨⟨_, rfl⟩, Below.refl _ _⟩
    · obtain ⟨g, o, rfl, hx⟩ := hr hne
      have HX := Lib.hid (And.intro hx hl)
      clear hr hx hl
      go_enter Tryd.func8, Tryd.ntmps8
      go_wp2
      go_loopg [4, 10] ls.length (fun gk _ i wr => ∃ k : Nat, k + gk = ls.length ∧ i = .int .i64 k ∧ Below w.heap.size w wr)
      case atStart => exact ⟨0, by omega, rfl, Below.refl _ _⟩
      case round =>
        obtain ⟨k, hk, rfl, hb⟩ := hrel
        by_cases hlt : k < ls.length
        · obtain ⟨l, hL⟩ : ∃ l, l = ls[k] := ⟨_, rfl⟩
          have hle : ls[k]? = some l := by rw [hL]; exact List.getElem?_eq_getElem hlt
          obtain ⟨d0, d1⟩ := HX.out.1 k l hle
          have c0 := (hb.cell (p := ⟨g, o + k * 2, none⟩) (World.block_lt_of_cell? _ _ d0)).trans d0
          have c1 := (hb.cell (p := ⟨g, o + k * 2 + 1, none⟩) (World.block_lt_of_cell? _ _ d1)).trans d1
          have hz := fun w2 => zzFits7_any l (HX.out.2 l (by rw [hL]; exact List.getElem_mem hlt)) w2
          have HS := Lib.hid (And.intro hz hb)
          clear hL hle d0 d1 hz hb
          go_wp2_with (go_at_call 19; refine (HS.out.1 _).mono ?_; rintro e w3 ⟨⟨b, rfl⟩, hb3⟩; have H3 := Lib.hid hb3; clear hb3; cases b)
          · go_ret
            exact ⟨⟨_, rfl⟩, (HS.out.2.alloc HS.out.2.size _).trans (H3.out.mono (by simp; have := HS.out.2.size; omega))⟩
          · go_roundg (gk - 1)
            case measure => omega
            case rel => exact ⟨k + 1, by omega, by go_num, (HS.out.2.alloc HS.out.2.size _).trans (H3.out.mono (by simp; have := HS.out.2.size; omega))⟩
        · have HA := Lib.hid hb
          clear hb
          go_wp2
          go_ret
          exact ⟨⟨_, rfl⟩, HA.out⟩
  · clear hr hl
    go_enter Tryd.func8, Tryd.ntmps8
    go_wp2
    go_ret
    exact ⟨⟨_, rfl⟩, Below.refl _ _⟩
/-- What Answer leaves. -/
def AnsEnd (n : Int) (ls : List AnsL) (w : World) (e : Ending) (w' : World) : Prop :=
  ∃ b, e = .returned (.bool b) ∧ (b = true → 100 ≤ n ∧ n ≤ 999 ∧ ls ≠ [] ∧ linesB ls ls.length) ∧ Below w.heap.size w w'
set_option maxRecDepth 200000 in
set_option maxHeartbeats 6400000 in
theorem answer_any {w : World} {A : Option Addr} {N c : Nat} {ls : List AnsL} (n : Int) (hr : AL w A ls) (hn : N = ls.length) (hl : ∀ l ∈ ls, l.t.length ≤ 9223372036854775807) (hm : ls.length ≤ 9223372036854775807) :
    Calls Tryd.prog 10 #[.int .i64 n, .slice A N c] w (AnsEnd n ls w) := by
  subst hn
  by_cases hne : ls = []
  · subst hne
    clear hr hl
    by_cases h1 : 100 ≤ n
    · by_cases h2 : n ≤ 999
      all_goals
        go_enter Tryd.func10, Tryd.ntmps10
        go_wp2
        go_loop [10] (fun i => i = .int .i64 0) (fun _ => 0)
        case atStart => rfl
        case round =>
          subst hrel
          go_wp2
          go_ret
          exact ⟨_, rfl, fun h => (by cases h), Below.refl _ _⟩
    · go_enter Tryd.func10, Tryd.ntmps10
      go_wp2
      go_loop [10] (fun i => i = .int .i64 0) (fun _ => 0)
      case atStart => rfl
      case round =>
        subst hrel
        go_wp2
        go_ret
        exact ⟨_, rfl, fun h => (by cases h), Below.refl _ _⟩
  · obtain ⟨g, o, rfl, hx⟩ := hr hne
    have HX := Lib.hid (And.intro hx hl)
    have hpos : 0 < ls.length := List.length_pos_iff.2 hne
    clear hr hx hl
    go_enter Tryd.func10, Tryd.ntmps10
    go_wp2
    go_loopg [5, 6, 7, 10] ls.length (fun gk _ _ _ i wr => ∃ k : Nat, k + gk = ls.length ∧ i = .int .i64 k ∧ Hid (linesB ls k) ∧ Below w.heap.size w wr)
    case atStart => exact ⟨0, by omega, rfl, Lib.hid (fun i l h => by omega), Below.refl _ _⟩
    case round =>
      obtain ⟨k, hk, rfl, hok, hb⟩ := hrel
      by_cases hlt : k < ls.length
      · obtain ⟨l, hL⟩ : ∃ l, l = ls[k] := ⟨_, rfl⟩
        have hle : ls[k]? = some l := by rw [hL]; exact List.getElem?_eq_getElem hlt
        obtain ⟨d0, d1⟩ := HX.out.1 k l hle
        have c0 := (hb.cell (p := ⟨g, o + k * 2, none⟩) (World.block_lt_of_cell? _ _ d0)).trans d0
        have c1 := (hb.cell (p := ⟨g, o + k * 2 + 1, none⟩) (World.block_lt_of_cell? _ _ d1)).trans d1
        have hsl := HX.out.2 l (by rw [hL]; exact List.getElem_mem hlt)
        have hnx : lineB (decide (k = 0)) (decide (k + 1 = ls.length)) l = true → linesB ls (k + 1) := fun h => linesB_succ hok.out hle h
        obtain ⟨t, bare⟩ := l
        have hB : Blk (wr.alloc (.cells #[.string ⟨t.toArray⟩, .bool bare] 42)) wr.heap.size #[.string ⟨t.toArray⟩, .bool bare] 42 := Blk.new wr _ _
        have hW1 : Below w.heap.size w (wr.alloc (.cells #[.string ⟨t.toArray⟩, .bool bare] 42)) := hb.alloc hb.size _
        have hsl : t.length ≤ 9223372036854775807 := hsl
        have c0 : wr.cell? ⟨g, o + k * 2, none⟩ = some (.string ⟨t.toArray⟩) := c0
        have c1 : wr.cell? ⟨g, o + k * 2 + 1, none⟩ = some (.bool bare) := c1
        clear hL hle d0 d1 hb hok
        go_wp2
        have e0 : (wr.alloc (.cells #[.string ⟨t.toArray⟩, .bool bare] 42)).cell? ⟨wr.heap.size, 0, none⟩ = some (.string ⟨t.toArray⟩) := hB.cell 0
        have e1 : (wr.alloc (.cells #[.string ⟨t.toArray⟩, .bool bare] 42)).cell? ⟨wr.heap.size, 1, none⟩ = some (.bool bare) := hB.cell 1
        clear hB
        have HS := Lib.hid (And.intro hnx hW1)
        clear hnx hW1
        generalize wr.alloc (.cells #[.string ⟨t.toArray⟩, .bool bare] 42) = W1 at e0 e1 HS ⊢
        generalize wr.heap.size = gb at e0 e1 ⊢
        clear c0 c1
        obtain ⟨gk0, hgk0⟩ : ∃ x, x = gk := ⟨_, rfl⟩
        rw [← hgk0] at hk
        go_loopg [7] t.length (fun gk2 i wr2 => ∃ j : Nat, j + gk2 = t.length ∧ i = .int .i64 j ∧ Hid (cleanB (t.take j) = true) ∧ wr2 = W1)
        case atStart => exact ⟨0, by omega, rfl, Lib.hid rfl, rfl⟩
        case round =>
          obtain ⟨j, hj, rfl, hcj, rfl⟩ := hrel
          by_cases hjl : j < t.length
          · by_cases hbad : t[j] = 13 ∨ t[j] = 10
            · rcases hbad with h13 | h10
              · have e13 : ((t[j].toNat : Int) == 13) = true := by rw [h13]; rfl
                clear h13
                go_wp2
                go_ret
                exact ⟨false, rfl, fun h => (by cases h), HS.out.2⟩
              · have e13 : ((t[j].toNat : Int) == 13) = false := by rw [h10]; rfl
                have e10 : ((t[j].toNat : Int) == 10) = true := by rw [h10]; rfl
                clear h10
                go_wp2
                go_ret
                exact ⟨false, rfl, fun h => (by cases h), HS.out.2⟩
            · have e13 : ((t[j].toNat : Int) == 13) = false := by
                rw [beq_eq_false_iff_ne]; exact fun e => hbad (.inl ((byte_eq_iff t[j] 13).1 e))
              have e10 : ((t[j].toNat : Int) == 10) = false := by
                rw [beq_eq_false_iff_ne]; exact fun e => hbad (.inr ((byte_eq_iff t[j] 10).1 e))
              have hnx : cleanB (t.take (j + 1)) = true := by
                rw [cleanB_snoc t j hjl, hcj.out]
                simp only [Bool.true_and, Bool.and_eq_true, bne_iff_ne]
                exact ⟨fun e => hbad (.inl e), fun e => hbad (.inr e)⟩
              have HN := Lib.hid hnx
              clear hnx hbad
              go_wp2
              go_roundg (gk - 1)
              case measure => omega
              case rel => exact ⟨j + 1, by omega, by go_num, HN, rfl⟩
          · have hcl := hcj.out
            rw [List.take_of_length_le (by omega)] at hcl
            have HC := Lib.hid hcl
            clear hcl hcj
            go_upto_region 9 with (fail)
            clear hjl hj
            cases bare
            · go_wp2
              go_roundg (gk0 - 1)
              case measure => omega
              case rel => exact ⟨k + 1, by omega, by go_num, Lib.hid (HS.out.1 (by unfold lineB; rw [HC.out]; rfl)), HS.out.2⟩
            · by_cases h0 : k = 0
              · have n0 : ((k : Int) == 0) = true := by rw [h0]; rfl
                clear h0
                go_wp2
                go_ret
                exact ⟨false, rfl, fun h => (by cases h), HS.out.2⟩
              · have n0 : ((k : Int) == 0) = false := by rw [beq_eq_false_iff_ne]; omega
                have m0 : ¬ (k : Int) = 0 := by omega
                by_cases h1 : k + 1 = ls.length
                · have n1 : ((k : Int) == (ls.length : Int) - 1) = true := by rw [beq_iff_eq]; omega
                  go_wp2
                  go_ret
                  exact ⟨false, rfl, fun h => (by cases h), HS.out.2⟩
                · have n1 : ((k : Int) == (ls.length : Int) - 1) = false := by rw [beq_eq_false_iff_ne]; omega
                  have m1 : ¬ (k : Int) = (ls.length : Int) - 1 := by omega
                  have HK := Lib.hid (And.intro h0 h1)
                  clear h0 h1
                  rcases t with _ | ⟨a, _ | ⟨b, _ | ⟨c, _ | ⟨d, m⟩⟩⟩⟩
                  case cons.cons.cons.cons =>
                    have h4 : ¬ ((m.length : Int) + 1 + 1 + 1 + 1) < 4 := by omega
                    obtain ⟨qa, hqa⟩ : ∃ qa, qa = (a != 32) := ⟨_, rfl⟩
                    obtain ⟨qd, hqd⟩ : ∃ qd, qd = (d == 32) := ⟨_, rfl⟩
                    obtain ⟨qe, hqe⟩ : ∃ qe, qe = (d == 45) := ⟨_, rfl⟩
                    have i1 : ((a.toNat : Int) != 32) = qa := by rw [hqa]; exact byte_bneA a 32
                    have i2 : ((d.toNat : Int) == 32) = qd := by rw [hqd]; exact byte_beqA d 32
                    have i3 : ((d.toNat : Int) == 45) = qe := by rw [hqe]; exact byte_beqA d 45
                    have HQ := Lib.hid (And.intro hqa (And.intro hqd hqe))
                    clear hqa hqd hqe
                    cases qa
                    · cases qd
                      · cases qe
                        · go_wp2
                          go_roundg (gk0 - 1)
                          case measure => omega
                          case rel =>
                            refine ⟨k + 1, by omega, by go_num, Lib.hid (HS.out.1 ?_), HS.out.2⟩
                            obtain ⟨q1, q2, q3⟩ := HQ.out
                            unfold lineB
                            rw [HC.out]
                            simp only [bareB4, Bool.true_and, Bool.not_true, Bool.false_or, Bool.and_eq_true, Bool.not_eq_true', decide_eq_false_iff_not]
                            refine ⟨HK.out.1, HK.out.2, ?_, ?_, ?_⟩
                            · simpa [bne] using q1.symm
                            · simpa [bne] using q2.symm
                            · simpa [bne] using q3.symm
                        · go_wp2
                          go_ret
                          exact ⟨false, rfl, fun h => (by cases h), HS.out.2⟩
                      · go_wp2
                        go_ret
                        exact ⟨false, rfl, fun h => (by cases h), HS.out.2⟩
                    · go_wp2
                      go_ret
                      exact ⟨false, rfl, fun h => (by cases h), HS.out.2⟩
                  all_goals
                    go_wp2
                    go_ret
                    exact ⟨false, rfl, fun h => (by cases h), HS.out.2⟩
      · have hfin := hok.out
        have hke : k = ls.length := by omega
        rw [hke] at hfin
        have HF := Lib.hid (And.intro hfin (And.intro hb hne))
        clear hfin hb hok hke
        have hpi : (0 : Int) < (ls.length : Int) := by omega
        by_cases h1 : 100 ≤ n
        · by_cases h2 : n ≤ 999
          · have HN := Lib.hid (And.intro h1 h2)
            go_wp2
            go_ret
            exact ⟨true, rfl, fun _ => ⟨HN.out.1, HN.out.2, HF.out.2.2, HF.out.1⟩, HF.out.2.1⟩
          · go_wp2
            go_ret
            exact ⟨false, rfl, fun h => (by cases h), HF.out.2.1⟩
        · go_wp2
          go_ret
          exact ⟨false, rfl, fun h => (by cases h), HF.out.2.1⟩
end Go.Proofs.YtfnkkjehkegpgaaDoor
