/- The walk of readLineSlice. -/
import Derived.Test.YtfnkkjehkegpgaaDoorRdG
import Derived.Lib.SliceRun
namespace Go.Proofs.YtfnkkjehkegpgaaDoor
open Go.RowKit

theorem LineSays.more_lt {S line rest : List UInt8} {er : Er} (h : LineSays S line true er rest) : er = .nil ∧ rest.length < S.length ∧ line ≠ [] ∧ line.length + rest.length ≤ S.length := by
  cases h with
  | more t b h4 h10 htb hb =>
    have := congrArg List.length htb
    rw [List.length_take, List.length_append] at this
    simp at this
    refine ⟨rfl, by rw [List.length_drop]; omega, by simp, by rw [List.length_drop, List.length_append]; simp; omega⟩
  | back t h4 h10 htb =>
    have := congrArg List.length htb
    rw [List.length_take, List.length_append] at this
    simp at this
    refine ⟨rfl, by rw [List.length_cons, List.length_drop]; omega, by rintro rfl; simp at this; omega, by rw [List.length_cons, List.length_drop]; omega⟩
theorem dropCR_le (l : List UInt8) : (dropCR l).length ≤ l.length := by
  unfold dropCR
  split
  · simp
  · exact Nat.le_refl _
theorem LineSays.le {S line rest : List UInt8} {m : Bool} {er : Er} (h : LineSays S line m er rest) : line.length + rest.length ≤ S.length := by
  cases m with
  | true => exact h.more_lt.2.2.2
  | false =>
    cases h with
    | ended hS => simp
    | line l rest hl h10 hlt => rw [hl]; have := dropCR_le l; simp; omega
    | last hS h10 hlt => simp
theorem LineSays.er {S line rest : List UInt8} {m : Bool} {er : Er} (h : LineSays S line m er rest) : er = .nil ∨ (er = .sent 0 ∧ m = false ∧ line = []) := by
  cases h with
  | ended hS => exact .inr ⟨rfl, rfl, rfl⟩
  | _ => exact .inl rfl

theorem Tryd.eqlNil (A : Option Addr) (n c : Nat) (w : World) : (binOp .eql 23 (.slice A n c) (.slice none 0 0)).run Tryd.prog w = .ok (.bool A.isNone) w := Lib.run_eql_slice_nil w 23 5 A n c 0 0 Tryd.underlying23
theorem OB.cap0 {w : World} {base : Nat} {A : Option Addr} {n c : Nat} {l : List UInt8} (h : OB w base (.slice A n c) l) (e : A = none) : c = 0 := by
  subst e
  rcases h.2 with ⟨h, _⟩ | ⟨g', cap, cur, h, _⟩
  · injection h
  · injection h with h _ _; cases h
theorem OB.place {w : World} {base : Nat} {A : Option Addr} {n c : Nat} {l : List UInt8} (h : OB w base (.slice A n c) l) : ∀ a, A = some a → a.spot = none ∧ base ≤ a.block := by
  intro a e
  subst e
  rcases h.2 with ⟨h, _⟩ | ⟨g', cap, cur, h, hb, _⟩
  · cases h
  · injection h with h _ _; injection h with h; subst h; exact ⟨rfl, hb⟩
set_option maxRecDepth 200000 in
set_option maxHeartbeats 8000000 in
theorem readLineSlice_any {K : Und} (hK : FillOK K) {base t p bb : Nat} {E : Nat → Addr} {gs : List Nat} {w : World} {B U : List UInt8} {r : Nat} {z : Bool} {lb lr : Int} {buf : Value} (h : Rd K base E gs p bb w B U r z lb lr) (hg : 0 ∈ gs) (hf : 4 ∈ gs)
    (ht : TpC w t p (.pointer none) buf) (hts : ¬ Rd.S K p bb t) (lim : Int) (hlim : lim < 0 ∨ ((B ++ U).length : Int) ≤ lim) (hS : (B ++ U).length ≤ 140737488355328) :
    Calls Tryd.prog 39 #[.pointer (some ⟨t, 0, none⟩), .int .i64 lim] w (TEnd K base E gs t p bb buf (B ++ U) w) := by
  generalize hSe : B ++ U = S at hlim hS ⊢
  have H := Lib.hid (And.intro h (And.intro ht hSe))
  have hh := closeDot_nil ht
  clear h ht hSe
  go_enter Tryd.func39, Tryd.ntmps39
  go_wp2_with (go_at_call 45; refine hh.mono ?_; rintro e w1 ⟨rfl, rfl⟩)
  go_loopg [4, 5, 6, 7, 8, 9] S.length (fun k u4 u5 u6 u7 u8 u9 wr => ∃ (acc B' U' : List UInt8) (r' : Nat) (z' : Bool) (lb' lr' : Int), Rd K base E gs p bb wr B' U' r' z' lb' lr' ∧ TpC wr t p (.pointer none) buf ∧ Chg (Rd.S K p bb) w wr ∧
    OB wr w.heap.size u6 acc ∧ (acc = [] → u6 = .slice none 0 0) ∧ (B' ++ U').length ≤ k ∧ acc.length + (B' ++ U').length ≤ S.length ∧
    (∀ line er rest, TSays (B' ++ U') line er rest → (er = .nil → TSays S (acc ++ line) .nil rest) ∧ (er ≠ .nil → TSays S [] er rest)))
  case atStart => exact ⟨[], B, U, r, z, lb, lr, H.out.1, H.out.2.1, Chg.refl _ _, OB.nil _ _, fun _ => rfl, by rw [H.out.2.2]; exact Nat.le_refl _, by rw [H.out.2.2]; simp, fun line er rest hs => by rw [H.out.2.2] at hs; exact ⟨fun e => by subst e; exact hs, fun e => by cases hs <;> first | exact absurd rfl e | exact .err ‹_› e | exact .fall ‹_› ‹_› e⟩⟩
  case round =>
    obtain ⟨acc, B1, U1, r1, z1, lb1, lr1, h1, ht1, hC1, hown, hnil, hk, hsz, hcont⟩ := hrel
    have c0 := ht1.c0
    have hrl := readLine_any hK h1 hg hf
    have HR := Lib.hid (And.intro h1 (And.intro ht1 (And.intro hC1 (And.intro hown (And.intro hnil (And.intro hk (And.intro hsz hcont)))))))
    have HL := Lib.hid hrl
    clear h1 ht1 hC1 hown hnil hk hsz hcont hrl hh
    go_wp2_with (go_at_call 46; refine HL.out.mono ?_; rintro e w2 ⟨A, c, line, more, er, B2, U2, r2, z2, lb2, lr2, rfl, hsay, hlc, hc4, hrb, hAn, hAb, h2, hC2⟩)
    have HS := Lib.hid (And.intro hsay (And.intro hlc (And.intro hc4 (And.intro hrb (And.intro hAn (And.intro hAb (And.intro h2 hC2)))))))
    rcases hsay.er with he | ⟨he, hm, hl⟩
    · subst he
      have hle := hsay.le
      have en := fun A n c w => Tryd.eqlNil A n c w
      have hsz := HR.out.2.2.2.2.2.2.1
      have hsum : acc.length + line.length ≤ S.length := by omega
      have hli : lim < 0 ∨ (0 ≤ lim ∧ (acc.length : Int) + (line.length : Int) ≤ lim) := by omega
      have hown := HR.out.2.2.2.1.chg (HS.out.2.2.2.2.2.2.2) (H.out.1.S_lt)
      have hN := Nat.le_trans HR.out.2.2.1.size HS.out.2.2.2.2.2.2.2.size
      have hapl : acc.length + line.length ≤ 140737488355328 := by omega
      have hal : (acc.length : Int) ≤ 140737488355328 := by omega
      have hll : (line.length : Int) ≤ 140737488355328 := by omega
      have HO := Lib.hid (And.intro hown (And.intro hN (And.intro hapl hrb)))
      have hfin : ∀ (A' : Option Addr) (c' : Nat) (l' : List UInt8) (w3 : World), TSays S l' .nil (B2 ++ U2) → l'.length ≤ c' → c' ≤ 9223372036854775807 → RB w3 A' l' → ((A' = none → c' = 0) ∧ ∀ a, A' = some a → a.spot = none ∧ (Lies bb r2 a l'.length ∨ w.heap.size ≤ a.block)) → Below w.heap.size w2 w3 →
          TEnd K base E gs t p bb buf S w (.returned (.tuple #[.slice A' l'.length c', .nilIface])) w3 := fun A' c' l' w3 h1 h2 h3 h4 h5 h6 => by
        obtain ⟨_, _, _, _, _, _, h2', hC2⟩ := HS.out
        obtain ⟨_, ht1, hC1, _, _, _, _, _⟩ := HR.out
        refine ⟨A', c', l', .nil, B2, U2, r2, z2, lb2, lr2, rfl, h1, h2, h3, h4, h5, ?_, ?_, (hC1.trans hC2).of_below h6 (fun k hk _ => hk)⟩
        · refine (ht1.same (hC2.block t ht1.lt hts)).same (h6.block t H.out.2.1.lt)
        · exact h2'.below h6 H.out.1.S_lt
      have hround : ∀ (w3 : World) (v : Value) (A' : Option Addr) (n' c' : Nat), more = true → Appended w2 w3 w.heap.size v A' n' c' (acc ++ line) → v.ownBlock = none ∨ (∃ k, v.ownBlock = some k ∧ w.heap.size ≤ k) →
          ∃ (acc' B' U' : List UInt8) (r' : Nat) (z' : Bool) (lb' lr' : Int), Rd K base E gs p bb w3 B' U' r' z' lb' lr' ∧ TpC w3 t p (.pointer none) buf ∧ Chg (Rd.S K p bb) w w3 ∧
            OB w3 w.heap.size (.slice A' n' c') acc' ∧ (acc' = [] → Value.slice A' n' c' = .slice none 0 0) ∧ (B' ++ U').length ≤ (B2 ++ U2).length ∧ acc'.length + (B' ++ U').length ≤ S.length ∧
            (∀ line er rest, TSays (B' ++ U') line er rest → (er = .nil → TSays S (acc' ++ line) .nil rest) ∧ (er ≠ .nil → TSays S [] er rest)) := fun w3 v A' n' c' hm hap hv => by
        subst hm
        obtain ⟨hsay, hlc, hc4, hrb, hAn, hAb, h2', hC2⟩ := HS.out
        obtain ⟨h1', ht1, hC1, hown, hnil, hk, hsz, hcont⟩ := HR.out
        have hml := hsay.more_lt
        have h6 : Below w.heap.size w2 w3 := (Below.refl _ _).grown hap.grown (HO.out.2.1) (fun k hk => by rcases hv with h | ⟨k', h, h'⟩; rw [h] at hk; cases hk; rw [h] at hk; injection hk with hk; omega)
        refine ⟨acc ++ line, B2, U2, r2, z2, lb2, lr2, h2'.below h6 H.out.1.S_lt, (ht1.same (hC2.block t ht1.lt hts)).same (h6.block t H.out.2.1.lt), (hC1.trans hC2).of_below h6 (fun k hk _ => hk), hap.own, fun e => absurd (List.append_eq_nil_iff.1 e).2 hml.2.2.1, Nat.le_refl _, by rw [List.length_append]; omega, fun l2 er2 rest2 hs2 => ⟨fun e => ?_, fun e => ?_⟩⟩
        · subst e
          have := (hcont _ _ _ (.step hsay hs2)).1 rfl
          rwa [List.append_assoc]
        · exact (hcont _ _ _ (.fall hsay hs2 e)).2 e
      have HF := Lib.hid hfin
      have HG := Lib.hid hround
      clear hfin hround
      by_cases hacc : acc = []
      · have hu6 := HR.out.2.2.2.2.1 hacc
        subst hacc
        subst hu6
        clear hsay hlc hc4 hrb hAn hAb h2 hC2 hle hsz hown hN hapl
        simp only [Er.val]
        cases more
        · rcases hli with hneg | ⟨hpos, hlim2⟩
          all_goals
            go_simp
            go_wp2
            go_ret2
            obtain ⟨hsay, hlc, hc4, hrb, hAn, hAb, h2', hC2⟩ := HS.out
            exact HF.out A c line w2 ((HR.out.2.2.2.2.2.2.2 _ _ _ (.done hsay)).1 rfl) hlc (by omega) hrb ⟨fun e => (hAn e).2, fun a e => ⟨(hAb a e).2, .inl (hAb a e).1⟩⟩ (Below.refl _ _)
        · rcases hli with hneg | ⟨hpos, hlim2⟩
          all_goals
            go_simp
            go_wp2_with (refine at_appendB ?_; refine wpList_append_B rfl (.tmp 43) (.tmp 44) rfl w.heap.size (.slice none 0 0) [] rfl HO.out.1 A line line.length c rfl rfl HO.out.2.2.2 HO.out.2.2.1 HO.out.2.1 line.length (by simp) line rfl ?_; intro A3 c3 w3 hap)
            go_roundg (B2 ++ U2).length
            case rel => exact HG.out w3 (.slice none 0 0) A3 _ c3 (by trivial) hap (.inl rfl)
            case measure => have := HS.out.1.more_lt.2.1; have := HR.out.2.2.2.2.2.1; omega
      · obtain ⟨A6, c6, hu6, hac, hac', hrb6⟩ := hown.form
        obtain ⟨g6, o6, hA6, _⟩ := hrb6 hacc
        subst hA6
        subst hu6
        have hob : w.heap.size ≤ g6 ∧ o6 = 0 := by
          have h1 := hown.lt g6 (by rfl)
          rcases hown.2 with ⟨h, _⟩ | ⟨g', cap, cur, h, hb, _⟩
          · cases h
          · injection h with h _ _; injection h with h; injection h with h3 h4; subst h3; exact ⟨hb, h4⟩
        obtain ⟨hob, ho6⟩ := hob
        subst ho6
        have HB := Lib.hid hob
        clear hsay hlc hc4 hrb hAn hAb h2 hC2 hle hsz hown hN hapl hac hac' hrb6 hob
        simp only [Er.val]
        cases more
        · rcases hli with hneg | ⟨hpos, hlim2⟩
          all_goals
            go_simp
            go_wp2_with (refine at_appendB ?_; refine wpList_append_B rfl (.tmp 43) (.tmp 44) rfl w.heap.size (.slice (some ⟨g6, 0, none⟩) acc.length c6) acc rfl HO.out.1 A line line.length c rfl rfl HO.out.2.2.2 HO.out.2.2.1 HO.out.2.1 _ rfl _ rfl ?_; intro A3 c3 w3 hap)
            have HP := Lib.hid hap
            clear hap
            go_ret2
            have hap := HP.out
            have h6 : Below w.heap.size w2 w3 := (Below.refl _ _).grown hap.grown (HO.out.2.1) (fun k hk => by cases hk; exact HB.out)
            have hh := HF.out A3 c3 (acc ++ line) w3 ((HR.out.2.2.2.2.2.2.2 _ _ _ (.done HS.out.1)).1 rfl) (by rw [← hap.len]; exact hap.le) hap.le' hap.read ⟨fun e => hap.own.cap0 e, fun a e => ⟨(hap.own.place a e).1, .inr (hap.own.place a e).2⟩⟩ h6
            rw [List.length_append] at hh
            exact hh
        · rcases hli with hneg | ⟨hpos, hlim2⟩
          all_goals
            go_simp
            go_wp2_with (refine at_appendB ?_; refine wpList_append_B rfl (.tmp 43) (.tmp 44) rfl w.heap.size (.slice (some ⟨g6, 0, none⟩) acc.length c6) acc rfl HO.out.1 A line line.length c rfl rfl HO.out.2.2.2 HO.out.2.2.1 HO.out.2.1 _ rfl _ rfl ?_; intro A3 c3 w3 hap)
            go_roundg (B2 ++ U2).length
            case rel => exact HG.out w3 (.slice (some ⟨g6, 0, none⟩) acc.length c6) A3 _ c3 (by trivial) hap (.inr ⟨_, rfl, HB.out⟩)
            case measure => have := HS.out.1.more_lt.2.1; have := HR.out.2.2.2.2.2.1; omega
    · subst he; subst hm; subst hl
      clear hsay hlc hc4 hrb hAn hAb h2 hC2
      simp only [Er.val]
      go_simp
      go_wp2
      go_ret2
      obtain ⟨hsay, hlc, hc4, hrb, hAn, hAb, h2', hC2⟩ := HS.out
      obtain ⟨h1', ht1, hC1, hown, hnil, hk, hsz, hcont⟩ := HR.out
      exact ⟨none, 0, [], .sent 0, B2, U2, r2, z2, lb2, lr2, rfl, (hcont _ _ _ (.err hsay (fun e => by cases e))).2 (fun e => by cases e), Nat.le_refl _, by decide, RB.nil _ _, ⟨fun _ => rfl, fun a e => by cases e⟩, ht1.same (hC2.block t ht1.lt hts), h2', hC1.trans hC2⟩
end Go.Proofs.YtfnkkjehkegpgaaDoor
