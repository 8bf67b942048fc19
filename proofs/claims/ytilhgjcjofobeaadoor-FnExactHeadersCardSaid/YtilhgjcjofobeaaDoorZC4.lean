/- The walk of readLineSlice. | What ReadLine answers of a stream, in plain Lean: the line up to the first LF, less a CR ahead of it; the answer is one. | A textproto.Reader as a thing with bytes that are left; the walk of its ReadLine. | The walk of impl.reader: a textproto.Reader over bytes, made. -/
import Derived.Test.YtilhgjcjofobeaaDoorZC3
import Derived.Lib.SliceRun
import Derived.Deep.OwnRows
namespace Go.Proofs.YtilhgjcjofobeaaDoor
open Go.RowKit

theorem LineSays.more_lt {S line rest : List UInt8} {er : Er} (h : LineSays S line true er rest) : er = .nil ∧ rest.length < S.length ∧ line ≠ [] ∧ line.length + rest.length ≤ S.length := by
  cases h with
  | more t b h4 h10 htb hb =>
    have := congrArg List.length htb
    rw [List.length_take, List.length_append] at this
    simp at this
    refine ⟨rfl, by rw [List.length_drop]; omega, by simp, by rw [List.length_drop, List.length_append]; simp; omega⟩
  | back t h4 h10 htb =>
    have := congrArg List.length htb
    rw [List.length_take, List.length_append] at this
    simp at this
    refine ⟨rfl, by rw [List.length_cons, List.length_drop]; omega, by rintro rfl; simp at this; omega, by rw [List.length_cons, List.length_drop]; omega⟩
theorem dropCR_le (l : List UInt8) : (dropCR l).length ≤ l.length := by
  unfold dropCR
  split
  · simp
  · exact Nat.le_refl _
theorem LineSays.le {S line rest : List UInt8} {m : Bool} {er : Er} (h : LineSays S line m er rest) : line.length + rest.length ≤ S.length := by
  cases m with
  | true => exact h.more_lt.2.2.2
  | false =>
    cases h with
    | ended hS => simp
    | line l rest hl h10 hlt => rw [hl]; have := dropCR_le l; simp; omega
    | last hS h10 hlt => simp
theorem LineSays.er {S line rest : List UInt8} {m : Bool} {er : Er} (h : LineSays S line m er rest) : er = .nil ∨ (er = .sent 0 ∧ m = false ∧ line = []) := by
  cases h with
  | ended hS => exact .inr ⟨rfl, rfl, rfl⟩
  | _ => exact .inl rfl

theorem Tryd.eqlNil (A : Option Addr) (n c : Nat) (w : World) : (binOp .eql 23 (.slice A n c) (.slice none 0 0)).run Tryd.prog w = .ok (.bool A.isNone) w := Lib.run_eql_slice_nil w 23 5 A n c 0 0 Tryd.underlying23
theorem OB.cap0 {w : World} {base : Nat} {A : Option Addr} {n c : Nat} {l : List UInt8} (h : OB w base (.slice A n c) l) (e : A = none) : c = 0 := by
  subst e
  rcases h.2 with ⟨h, _⟩ | ⟨g', cap, cur, h, _⟩
  · injection h
  · injection h with h _ _; cases h
theorem OB.place {w : World} {base : Nat} {A : Option Addr} {n c : Nat} {l : List UInt8} (h : OB w base (.slice A n c) l) : ∀ a, A = some a → a.spot = none ∧ base ≤ a.block := by
  intro a e
  subst e
  rcases h.2 with ⟨h, _⟩ | ⟨g', cap, cur, h, hb, _⟩
  · cases h
  · injection h with h _ _; injection h with h; subst h; exact ⟨rfl, hb⟩
theorem OB.free {w : World} {base : Nat} {A : Option Addr} {n c : Nat} {l : List UInt8} (h : OB w base (.slice A n c) l) : ∀ a, A = some a → ∀ i, w.frozen? ⟨a.block, i, none⟩ = false := by
  intro a e i
  subst e
  rcases h.2 with ⟨h, _⟩ | ⟨g', cap, cur, h, hb, hg, _⟩
  · cases h
  · injection h with h _ _; injection h with h; subst h
    exact Blk.free (t := 5) hg i
set_option maxRecDepth 200000 in
set_option maxHeartbeats 8000000 in
theorem readLineSlice_any {K : Und} (hK : FillOK K) {base t p bb : Nat} {E : Nat → Addr} {gs : List Nat} {w : World} {B U : List UInt8} {r : Nat} {z : Bool} {lb lr : Int} {buf : Value} (h : Rd K base E gs p bb w B U r z lb lr) (hg : 0 ∈ gs) (hf : 5 ∈ gs)
    (ht : TpC w t p (.pointer none) buf) (hts : ¬ Rd.S K p bb t) (lim : Int) (hlim : lim < 0 ∨ ((B ++ U).length : Int) ≤ lim) (hS : (B ++ U).length ≤ 140737488355328) :
    Calls Tryd.prog 46 #[.pointer (some ⟨t, 0, none⟩), .int .i64 lim] w (TEnd K base E gs t p bb buf (B ++ U) w) := by
  generalize hSe : B ++ U = S at hlim hS ⊢
  have H := Lib.hid (And.intro h (And.intro ht hSe))
  have hh := closeDot_nil ht
  clear h ht hSe
  go_enter Tryd.func46, Tryd.ntmps46
  go_wp2_with (go_at_call 68; refine hh.mono ?_; rintro e w1 ⟨rfl, rfl⟩)
  go_loopg [4, 5, 6, 7, 8, 9] S.length (fun k u4 u5 u6 u7 u8 u9 wr => ∃ (acc B' U' : List UInt8) (r' : Nat) (z' : Bool) (lb' lr' : Int), Rd K base E gs p bb wr B' U' r' z' lb' lr' ∧ TpC wr t p (.pointer none) buf ∧ Chg (Rd.S K p bb) w wr ∧
    OB wr w.heap.size u6 acc ∧ (acc = [] → u6 = .slice none 0 0) ∧ (B' ++ U').length ≤ k ∧ acc.length + (B' ++ U').length ≤ S.length ∧
    (∀ line er rest, TSays (B' ++ U') line er rest → (er = .nil → TSays S (acc ++ line) .nil rest) ∧ (er ≠ .nil → TSays S [] er rest)))
  case atStart => exact ⟨[], B, U, r, z, lb, lr, H.out.1, H.out.2.1, Chg.refl _ _, OB.nil _ _, fun _ => rfl, by rw [H.out.2.2]; exact Nat.le_refl _, by rw [H.out.2.2]; simp, fun line er rest hs => by rw [H.out.2.2] at hs; exact ⟨fun e => by subst e; exact hs, fun e => by cases hs <;> first | exact absurd rfl e | exact .err ‹_› e | exact .fall ‹_› ‹_› e⟩⟩
  case round =>
    obtain ⟨acc, B1, U1, r1, z1, lb1, lr1, h1, ht1, hC1, hown, hnil, hk, hsz, hcont⟩ := hrel
    have c0 := ht1.c0
    have hrl := readLine_any hK h1 hg hf
    have HR := Lib.hid (And.intro h1 (And.intro ht1 (And.intro hC1 (And.intro hown (And.intro hnil (And.intro hk (And.intro hsz hcont)))))))
    have HL := Lib.hid hrl
    clear h1 ht1 hC1 hown hnil hk hsz hcont hrl hh
    go_wp2_with (go_at_call 69; refine HL.out.mono ?_; rintro e w2 ⟨A, c, line, more, er, B2, U2, r2, z2, lb2, lr2, rfl, hsay, hlc, hc4, hrb, hAn, hAb, h2, hC2⟩)
    have HS := Lib.hid (And.intro hsay (And.intro hlc (And.intro hc4 (And.intro hrb (And.intro hAn (And.intro hAb (And.intro h2 hC2)))))))
    rcases hsay.er with he | ⟨he, hm, hl⟩
    · subst he
      have hle := hsay.le
      have en := fun A n c w => Tryd.eqlNil A n c w
      have hsz := HR.out.2.2.2.2.2.2.1
      have hsum : acc.length + line.length ≤ S.length := by omega
      have hli : lim < 0 ∨ (0 ≤ lim ∧ (acc.length : Int) + (line.length : Int) ≤ lim) := by omega
      have hown := HR.out.2.2.2.1.chg (HS.out.2.2.2.2.2.2.2) (H.out.1.S_lt)
      have hN := Nat.le_trans HR.out.2.2.1.size HS.out.2.2.2.2.2.2.2.size
      have hapl : acc.length + line.length ≤ 140737488355328 := by omega
      have hal : (acc.length : Int) ≤ 140737488355328 := by omega
      have hll : (line.length : Int) ≤ 140737488355328 := by omega
      have HO := Lib.hid (And.intro hown (And.intro hN (And.intro hapl hrb)))
      have hfin : ∀ (A' : Option Addr) (c' : Nat) (l' : List UInt8) (w3 : World), TSays S l' .nil (B2 ++ U2) → l'.length ≤ c' → c' ≤ 9223372036854775807 → RB w3 A' l' → ((A' = none → c' = 0) ∧ ∀ a, A' = some a → a.spot = none ∧ (Lies bb r2 a l'.length ∨ (w.heap.size ≤ a.block ∧ ∀ i, w3.frozen? ⟨a.block, i, none⟩ = false))) → Below w.heap.size w2 w3 →
          TEnd K base E gs t p bb buf S w (.returned (.tuple #[.slice A' l'.length c', .nilIface])) w3 := fun A' c' l' w3 h1 h2 h3 h4 h5 h6 => by
        obtain ⟨_, _, _, _, _, _, h2', hC2⟩ := HS.out
        obtain ⟨_, ht1, hC1, _, _, _, _, _⟩ := HR.out
        refine ⟨A', c', l', .nil, B2, U2, r2, z2, lb2, lr2, rfl, h1, h2, h3, h4, h5, ?_, ?_, (hC1.trans hC2).of_below h6 (fun k hk _ => hk)⟩
        · refine (ht1.same (hC2.block t ht1.lt hts)).same (h6.block t H.out.2.1.lt)
        · exact h2'.below h6 H.out.1.S_lt
      have hround : ∀ (w3 : World) (v : Value) (A' : Option Addr) (n' c' : Nat), more = true → Appended w2 w3 w.heap.size v A' n' c' (acc ++ line) → v.ownBlock = none ∨ (∃ k, v.ownBlock = some k ∧ w.heap.size ≤ k) →
          ∃ (acc' B' U' : List UInt8) (r' : Nat) (z' : Bool) (lb' lr' : Int), Rd K base E gs p bb w3 B' U' r' z' lb' lr' ∧ TpC w3 t p (.pointer none) buf ∧ Chg (Rd.S K p bb) w w3 ∧
            OB w3 w.heap.size (.slice A' n' c') acc' ∧ (acc' = [] → Value.slice A' n' c' = .slice none 0 0) ∧ (B' ++ U').length ≤ (B2 ++ U2).length ∧ acc'.length + (B' ++ U').length ≤ S.length ∧
            (∀ line er rest, TSays (B' ++ U') line er rest → (er = .nil → TSays S (acc' ++ line) .nil rest) ∧ (er ≠ .nil → TSays S [] er rest)) := fun w3 v A' n' c' hm hap hv => by
        subst hm
        obtain ⟨hsay, hlc, hc4, hrb, hAn, hAb, h2', hC2⟩ := HS.out
        obtain ⟨h1', ht1, hC1, hown, hnil, hk, hsz, hcont⟩ := HR.out
        have hml := hsay.more_lt
        have h6 : Below w.heap.size w2 w3 := (Below.refl _ _).grown hap.grown (HO.out.2.1) (fun k hk => by rcases hv with h | ⟨k', h, h'⟩; rw [h] at hk; cases hk; rw [h] at hk; injection hk with hk; omega)
        refine ⟨acc ++ line, B2, U2, r2, z2, lb2, lr2, h2'.below h6 H.out.1.S_lt, (ht1.same (hC2.block t ht1.lt hts)).same (h6.block t H.out.2.1.lt), (hC1.trans hC2).of_below h6 (fun k hk _ => hk), hap.own, fun e => absurd (List.append_eq_nil_iff.1 e).2 hml.2.2.1, Nat.le_refl _, by rw [List.length_append]; omega, fun l2 er2 rest2 hs2 => ⟨fun e => ?_, fun e => ?_⟩⟩
        · subst e
          have := (hcont _ _ _ (.step hsay hs2)).1 rfl
          rwa [List.append_assoc]
        · exact (hcont _ _ _ (.fall hsay hs2 e)).2 e
      have HF := Lib.hid hfin
      have HG := Lib.hid hround
      clear hfin hround
      by_cases hacc : acc = []
      · have hu6 := HR.out.2.2.2.2.1 hacc
        subst hacc
        subst hu6
        clear hsay hlc hc4 hrb hAn hAb h2 hC2 hle hsz hown hN hapl
        simp only [Er.val]
        cases more
        · rcases hli with hneg | ⟨hpos, hlim2⟩
          all_goals
            go_simp
            go_wp2
            go_ret2
            obtain ⟨hsay, hlc, hc4, hrb, hAn, hAb, h2', hC2⟩ := HS.out
            exact HF.out A c line w2 ((HR.out.2.2.2.2.2.2.2 _ _ _ (.done hsay)).1 rfl) hlc (by omega) hrb ⟨fun e => (hAn e).2, fun a e => ⟨(hAb a e).2, .inl (hAb a e).1⟩⟩ (Below.refl _ _)
        · rcases hli with hneg | ⟨hpos, hlim2⟩
          all_goals
            go_simp
            go_wp2_with (refine at_appendB ?_; refine wpList_append_B rfl (.tmp 43) (.tmp 44) rfl w.heap.size (.slice none 0 0) [] rfl HO.out.1 A line line.length c rfl rfl HO.out.2.2.2 HO.out.2.2.1 HO.out.2.1 line.length (by simp) line rfl ?_; intro A3 c3 w3 hap)
            go_roundg (B2 ++ U2).length
            case rel => exact HG.out w3 (.slice none 0 0) A3 _ c3 (by trivial) hap (.inl rfl)
            case measure => have := HS.out.1.more_lt.2.1; have := HR.out.2.2.2.2.2.1; omega
      · obtain ⟨A6, c6, hu6, hac, hac', hrb6⟩ := hown.form
        obtain ⟨g6, o6, hA6, _⟩ := hrb6 hacc
        subst hA6
        subst hu6
        have hob : w.heap.size ≤ g6 ∧ o6 = 0 := by
          have h1 := hown.lt g6 (by rfl)
          rcases hown.2 with ⟨h, _⟩ | ⟨g', cap, cur, h, hb, _⟩
          · cases h
          · injection h with h _ _; injection h with h; injection h with h3 h4; subst h3; exact ⟨hb, h4⟩
        obtain ⟨hob, ho6⟩ := hob
        subst ho6
        have HB := Lib.hid hob
        clear hsay hlc hc4 hrb hAn hAb h2 hC2 hle hsz hown hN hapl hac hac' hrb6 hob
        simp only [Er.val]
        cases more
        · rcases hli with hneg | ⟨hpos, hlim2⟩
          all_goals
            go_simp
            go_wp2_with (refine at_appendB ?_; refine wpList_append_B rfl (.tmp 43) (.tmp 44) rfl w.heap.size (.slice (some ⟨g6, 0, none⟩) acc.length c6) acc rfl HO.out.1 A line line.length c rfl rfl HO.out.2.2.2 HO.out.2.2.1 HO.out.2.1 _ rfl _ rfl ?_; intro A3 c3 w3 hap)
            have HP := Lib.hid hap
            clear hap
            go_ret2
            have hap := HP.out
            have h6 : Below w.heap.size w2 w3 := (Below.refl _ _).grown hap.grown (HO.out.2.1) (fun k hk => by cases hk; exact HB.out)
            have hh := HF.out A3 c3 (acc ++ line) w3 ((HR.out.2.2.2.2.2.2.2 _ _ _ (.done HS.out.1)).1 rfl) (by rw [← hap.len]; exact hap.le) hap.le' hap.read ⟨fun e => hap.own.cap0 e, fun a e => ⟨(hap.own.place a e).1, .inr ⟨(hap.own.place a e).2, hap.own.free a e⟩⟩⟩ h6
            rw [List.length_append] at hh
            exact hh
        · rcases hli with hneg | ⟨hpos, hlim2⟩
          all_goals
            go_simp
            go_wp2_with (refine at_appendB ?_; refine wpList_append_B rfl (.tmp 43) (.tmp 44) rfl w.heap.size (.slice (some ⟨g6, 0, none⟩) acc.length c6) acc rfl HO.out.1 A line line.length c rfl rfl HO.out.2.2.2 HO.out.2.2.1 HO.out.2.1 _ rfl _ rfl ?_; intro A3 c3 w3 hap)
            go_roundg (B2 ++ U2).length
            case rel => exact HG.out w3 (.slice (some ⟨g6, 0, none⟩) acc.length c6) A3 _ c3 (by trivial) hap (.inr ⟨_, rfl, HB.out⟩)
            case measure => have := HS.out.1.more_lt.2.1; have := HR.out.2.2.2.2.2.1; omega
    · subst he; subst hm; subst hl
      clear hsay hlc hc4 hrb hAn hAb h2 hC2
      simp only [Er.val]
      go_simp
      go_wp2
      go_ret2
      obtain ⟨hsay, hlc, hc4, hrb, hAn, hAb, h2', hC2⟩ := HS.out
      obtain ⟨h1', ht1, hC1, hown, hnil, hk, hsz, hcont⟩ := HR.out
      exact ⟨none, 0, [], .sent 0, B2, U2, r2, z2, lb2, lr2, rfl, (hcont _ _ _ (.err hsay (fun e => by cases e))).2 (fun e => by cases e), Nat.le_refl _, by decide, RB.nil _ _, ⟨fun _ => rfl, fun a e => by cases e⟩, ht1.same (hC2.block t ht1.lt hts), h2', hC1.trans hC2⟩
end Go.Proofs.YtilhgjcjofobeaaDoor
namespace Go.Proofs.YtilhgjcjofobeaaDoor
open Go.RowKit

theorem split_unique {a b x y : List UInt8} (h : a ++ 10 :: x = b ++ 10 :: y) (ha : 10 ∉ a) (hb : 10 ∉ b) : a = b ∧ x = y := by
  induction a generalizing b with
  | nil =>
    cases b with
    | nil => injection h with _ h; exact ⟨rfl, h⟩
    | cons c t => injection h with h1 h2; subst h1; exact absurd (List.mem_cons_self ..) hb
  | cons c t ih =>
    cases b with
    | nil => injection h with h1 h2; subst h1; exact absurd (List.mem_cons_self ..) ha
    | cons d u =>
      injection h with h1 h2
      subst h1
      obtain ⟨h3, h4⟩ := ih h2 (fun h => ha (List.mem_cons_of_mem _ h)) (fun h => hb (List.mem_cons_of_mem _ h))
      exact ⟨by rw [h3], h4⟩
theorem dropCR_append {a b : List UInt8} (hb : b ≠ []) : dropCR (a ++ b) = a ++ dropCR b := by
  rcases List.eq_nil_or_concat b with rfl | ⟨t, c, rfl⟩
  · exact absurd rfl hb
  · rw [List.concat_eq_append, ← List.append_assoc]
    by_cases hc : c = 13
    · subst hc; rw [dropCR_cr, dropCR_cr]
    · rw [dropCR_other hc, dropCR_other hc, List.append_assoc]
theorem LineSays.split {S a rest l R : List UInt8} {m : Bool} {er : Er} (h : LineSays S l m er R) (hS : S = a ++ 10 :: rest) (ha : 10 ∉ a) :
    er = .nil ∧ ((m = false ∧ l = dropCR a ∧ R = rest) ∨ (m = true ∧ ∃ a', 10 ∉ a' ∧ R = a' ++ 10 :: rest ∧ dropCR a = l ++ dropCR a')) := by
  have hmem : 10 ∈ S := by rw [hS]; simp
  have hlen : 4096 ≤ S.length → 10 ∉ S.take 4096 → 4096 ≤ a.length := by
    intro _ h2
    rcases Nat.lt_or_ge a.length 4096 with h' | h'
    · exfalso
      refine h2 ?_
      rw [hS, List.take_append, List.mem_append]
      right
      rw [show 4096 - a.length = (4095 - a.length) + 1 by omega, List.take_succ_cons]
      exact List.mem_cons_self ..
    · exact h'
  cases h with
  | ended hn => rw [hn] at hmem; cases hmem
  | line b rest' hl h10 hlt =>
    obtain ⟨h1, h2⟩ := split_unique (hS.symm.trans hl) ha h10
    subst h1; subst h2
    exact ⟨rfl, .inl ⟨rfl, rfl, rfl⟩⟩
  | last _ h10 _ => exact absurd hmem h10
  | more t b h4 h10 htb hb =>
    have hla := hlen h4 h10
    have hta : a.take 4096 = t ++ [b] := by rw [← htb, hS, List.take_append_of_le_length hla]
    have hda : S.drop 4096 = a.drop 4096 ++ 10 :: rest := by rw [hS, List.drop_append_of_le_length hla]
    refine ⟨rfl, .inr ⟨rfl, a.drop 4096, fun hm => ha (List.mem_of_mem_drop hm), hda, ?_⟩⟩
    have hae : a = t ++ [b] ++ a.drop 4096 := by rw [← hta, List.take_append_drop]
    by_cases hn : a.drop 4096 = []
    · rw [hn, dropCR_nil, List.append_nil]
      rw [hn, List.append_nil] at hae
      rw [hae, dropCR_other hb]
    · conv => lhs; rw [hae]
      exact dropCR_append hn
  | back _ h4 h10 htb =>
    have hla := hlen h4 h10
    have hta : a.take 4096 = l ++ [13] := by rw [← htb, hS, List.take_append_of_le_length hla]
    have hda : S.drop 4096 = a.drop 4096 ++ 10 :: rest := by rw [hS, List.drop_append_of_le_length hla]
    refine ⟨rfl, .inr ⟨rfl, 13 :: a.drop 4096, ?_, by rw [hda]; rfl, ?_⟩⟩
    · rw [List.mem_cons, not_or]
      exact ⟨by decide, fun hm => ha (List.mem_of_mem_drop hm)⟩
    · have hae : a = l ++ (13 :: a.drop 4096) := by
        conv => lhs; rw [← List.take_append_drop 4096 a, hta]
        simp
      conv => lhs; rw [hae]
      exact dropCR_append (by simp)
/-- A stream with a LF: the line ahead of it, less a CR at its end. -/
theorem TSays.line {S a rest l R : List UInt8} {er : Er} (h : TSays S l er R) (hS : S = a ++ 10 :: rest) (ha : 10 ∉ a) : er = .nil ∧ l = dropCR a ∧ R = rest := by
  induction h generalizing a with
  | done h1 =>
    obtain ⟨_, h2 | ⟨h2, _⟩⟩ := h1.split hS ha
    · exact ⟨rfl, h2.2⟩
    · cases h2
  | err h1 he => exact absurd (h1.split hS ha).1 he
  | step h1 h2 ih =>
    obtain ⟨_, h3 | ⟨_, a', h4, h5, h6⟩⟩ := h1.split hS ha
    · cases h3.1
    · obtain ⟨_, h7, h8⟩ := ih h5 h4
      exact ⟨rfl, by rw [h6, h7], h8⟩
  | fall h1 h2 he ih =>
    obtain ⟨_, h3 | ⟨_, a', h4, h5, h6⟩⟩ := h1.split hS ha
    · cases h3.1
    · exact absurd (ih h5 h4).1 he
theorem TSays.nil {l R : List UInt8} {er : Er} {S : List UInt8} (h : TSays S l er R) (hS : S = []) : er = .sent 0 ∧ l = [] ∧ R = [] := by
  cases h with
  | done h1 => cases h1 with
    | line a r hl _ _ => rw [hS] at hl; simp at hl
    | last hn _ _ => exact absurd hS hn
  | err h1 he => cases h1 with
    | ended _ => exact ⟨rfl, rfl, rfl⟩
    | _ => exact absurd rfl he
  | step h1 _ => cases h1 with
    | more _ _ h4 _ _ _ => rw [hS] at h4; simp at h4
    | back _ h4 _ _ => rw [hS] at h4; simp at h4
  | fall h1 _ _ => cases h1 with
    | more _ _ h4 _ _ _ => rw [hS] at h4; simp at h4
    | back _ h4 _ _ => rw [hS] at h4; simp at h4
/-- A stream without a LF, of less than 4096 bytes: all of it. -/
theorem TSays.rest {S l R : List UInt8} {er : Er} (h : TSays S l er R) (hS : S ≠ []) (h10 : 10 ∉ S) (hlt : S.length < 4096) : er = .nil ∧ l = S ∧ R = [] := by
  cases h with
  | done h1 => cases h1 with
    | line a r hl _ _ => exact absurd (by rw [hl]; simp) h10
    | last _ _ _ => exact ⟨rfl, rfl, rfl⟩
  | err h1 he => cases h1 with
    | ended h => exact absurd h hS
    | _ => exact absurd rfl he
  | step h1 _ => cases h1 with
    | more _ _ h4 _ _ _ => omega
    | back _ h4 _ _ => omega
  | fall h1 _ _ => cases h1 with
    | more _ _ h4 _ _ _ => omega
    | back _ h4 _ _ => omega

theorem LineSays.det {S l l' R R' : List UInt8} {m m' : Bool} {er er' : Er} (h : LineSays S l m er R) (h' : LineSays S l' m' er' R') : l = l' ∧ m = m' ∧ er = er' ∧ R = R' := by
  have hno : ∀ {a r : List UInt8}, S = a ++ 10 :: r → a.length < 4096 → 10 ∉ S.take 4096 → False := by
    intro a r hS hlt h2
    refine h2 ?_
    rw [hS, List.take_append, List.mem_append]
    right
    rw [show 4096 - a.length = (4095 - a.length) + 1 by omega, List.take_succ_cons]
    exact List.mem_cons_self ..
  cases h with
  | ended hn => cases h' with
    | ended _ => exact ⟨rfl, rfl, rfl, rfl⟩
    | line a r hl _ _ => rw [hn] at hl; simp at hl
    | last hn' _ _ => exact absurd hn hn'
    | more _ _ h4 _ _ _ => rw [hn] at h4; simp at h4
    | back _ h4 _ _ => rw [hn] at h4; simp at h4
  | line a r hl h10 hlt => cases h' with
    | ended hn => rw [hn] at hl; simp at hl
    | line a' r' hl' h10' _ =>
      obtain ⟨e1, e2⟩ := split_unique (hl.symm.trans hl') h10 h10'
      subst e1; subst e2
      exact ⟨rfl, rfl, rfl, rfl⟩
    | last _ h10' _ => exact absurd (by rw [hl]; simp) h10'
    | more _ _ _ h10' _ _ => exact (hno hl hlt h10').elim
    | back _ _ h10' _ => exact (hno hl hlt h10').elim
  | last hn h10 hlt => cases h' with
    | ended h => exact absurd h hn
    | line a r hl _ _ => exact absurd (by rw [hl]; simp) h10
    | last _ _ _ => exact ⟨rfl, rfl, rfl, rfl⟩
    | more _ _ h4 _ _ _ => omega
    | back _ h4 _ _ => omega
  | more t b h4 h10 htb hb => cases h' with
    | ended hn => rw [hn] at h4; simp at h4
    | line a r hl _ hlt => exact (hno hl hlt h10).elim
    | last _ _ hlt => omega
    | more t' b' _ _ htb' _ =>
      have h := htb.symm.trans htb'
      exact ⟨h, rfl, rfl, rfl⟩
    | back t' _ _ htb' =>
      have h := htb.symm.trans htb'
      have := (List.append_inj' h rfl).2
      injection this with h1 _
      exact absurd h1 hb
  | back t h4 h10 htb => cases h' with
    | ended hn => rw [hn] at h4; simp at h4
    | line a r hl _ hlt => exact (hno hl hlt h10).elim
    | last _ _ hlt => omega
    | more t' b' _ _ htb' hb' =>
      have h := htb.symm.trans htb'
      have := (List.append_inj' h rfl).2
      injection this with h1 _
      exact absurd h1.symm hb'
    | back t' _ _ htb' =>
      have h := htb.symm.trans htb'
      exact ⟨(List.append_inj' h rfl).1, rfl, rfl, rfl⟩
/-- The answer is one. -/
theorem TSays.det {S l l' R R' : List UInt8} {er er' : Er} (h : TSays S l er R) (h' : TSays S l' er' R') : l = l' ∧ er = er' ∧ R = R' := by
  induction h generalizing l' er' R' with
  | done h1 => cases h' with
    | done k1 => obtain ⟨a, _, b, c⟩ := h1.det k1; exact ⟨a, b, c⟩
    | err k1 ke => obtain ⟨_, _, b, _⟩ := h1.det k1; exact absurd b.symm ke
    | step k1 _ => obtain ⟨_, b, _, _⟩ := h1.det k1; cases b
    | fall k1 _ _ => obtain ⟨_, b, _, _⟩ := h1.det k1; cases b
  | err h1 he => cases h' with
    | done k1 => obtain ⟨_, _, b, _⟩ := h1.det k1; exact absurd b he
    | err k1 _ => obtain ⟨_, _, b, c⟩ := h1.det k1; exact ⟨rfl, b, c⟩
    | step k1 _ => obtain ⟨_, b, _, _⟩ := h1.det k1; cases b
    | fall k1 _ _ => obtain ⟨_, b, _, _⟩ := h1.det k1; cases b
  | step h1 h2 ih => cases h' with
    | done k1 => obtain ⟨_, b, _, _⟩ := h1.det k1; cases b
    | err k1 _ => obtain ⟨_, b, _, _⟩ := h1.det k1; cases b
    | step k1 k2 =>
      obtain ⟨a, _, _, d⟩ := h1.det k1
      subst a; subst d
      obtain ⟨x, y, z⟩ := ih k2
      exact ⟨by rw [x], y, z⟩
    | fall k1 k2 ke =>
      obtain ⟨_, _, _, d⟩ := h1.det k1
      subst d
      exact absurd (ih k2).2.1.symm ke
  | fall h1 h2 he ih => cases h' with
    | done k1 => obtain ⟨_, b, _, _⟩ := h1.det k1; cases b
    | err k1 _ => obtain ⟨_, b, _, _⟩ := h1.det k1; cases b
    | step k1 k2 =>
      obtain ⟨_, _, _, d⟩ := h1.det k1
      subst d
      exact absurd (ih k2).2.1 he
    | fall k1 k2 _ =>
      obtain ⟨_, _, _, d⟩ := h1.det k1
      subst d
      obtain ⟨_, y, z⟩ := ih k2
      exact ⟨rfl, y, z⟩
end Go.Proofs.YtilhgjcjofobeaaDoor
namespace Go.Proofs.YtilhgjcjofobeaaDoor
open Go.RowKit

/-- A textproto.Reader in block t over a bufio.Reader in block p: S is left, no dot reader is open. -/
def Tp (K : Und) (base : Nat) (E : Nat → Addr) (gs : List Nat) (t p bb : Nat) (buf : Value) (w : World) (S : List UInt8) : Prop :=
  base ≤ t ∧ ¬ Rd.S K p bb t ∧ TpC w t p (.pointer none) buf ∧ ∃ (B U : List UInt8) (r : Nat) (z : Bool) (lb lr : Int), Rd K base E gs p bb w B U r z lb lr ∧ B ++ U = S
section
variable {K : Und} {base t p bb : Nat} {E : Nat → Addr} {gs : List Nat} {buf : Value} {w w' : World} {S : List UInt8}
theorem Tp.size (h : Tp K base E gs t p bb buf w S) : base ≤ w.heap.size := by
  obtain ⟨_, _, _, _, _, _, _, _, _, h, _⟩ := h
  exact h.size
theorem Tp.lay (h : Tp K base E gs t p bb buf w S) : Lay K base p bb := by
  obtain ⟨_, _, _, _, _, _, _, _, _, h, _⟩ := h
  exact h.lay
theorem Tp.sens (h : Tp K base E gs t p bb buf w S) : SensB base w E gs := by
  obtain ⟨_, _, _, _, _, _, _, _, _, h, _⟩ := h
  exact h.s
theorem Tp.below (h : Tp K base E gs t p bb buf w S) (hb : Below w.heap.size w w') : Tp K base E gs t p bb buf w' S := by
  obtain ⟨h1, h2, h3, B, U, r, z, lb, lr, h4, h5⟩ := h
  exact ⟨h1, h2, h3.same (hb.block t h3.lt), B, U, r, z, lb, lr, h4.below hb h4.S_lt, h5⟩
theorem Tp.only (h : Tp K base E gs t p bb buf w S) (ho : Only w w') : Tp K base E gs t p bb buf w' S := by
  obtain ⟨h1, h2, h3, B, U, r, z, lb, lr, h4, h5⟩ := h
  exact ⟨h1, h2, h3.same (ho.at_ t), B, U, r, z, lb, lr, h4.only ho, h5⟩
/-- What a call leaves that turns the reader's blocks alone. -/
theorem Tp.frame (h : Tp K base E gs t p bb buf w S) (hc : Chg (Rd.S K p bb) w w') : Below base w w' := h.lay.below hc h.size
end
end Go.Proofs.YtilhgjcjofobeaaDoor
namespace Go.Proofs.YtilhgjcjofobeaaDoor
open Go.RowKit

/-- n bytes, all 0: as cells of a new block. -/
def zeroRow (n : Nat) : Array Value := madeCells #[.int .u8 0] n
theorem zeroRow_get (n i : Nat) (h : i < n) : (zeroRow n)[i]? = some (.int .u8 0) := by
  simp [zeroRow, madeCells, h, Nat.mod_one]
theorem zeroRow_size (n : Nat) : (zeroRow n).size = n := size_madeCells _ _
theorem Tryd.mkB (n : Nat) (h : n ≤ 140737488355328) (w : World) : (Instr.makeSlice 23 (.int .i64 (n : Int)) (.int .i64 (n : Int))).run Tryd.prog w = .ok (.slice (some ⟨w.heap.size, 0, none⟩) n n) (w.alloc (.cells (zeroRow n) 5)) :=
  run_make_row' (P := Tryd.prog) 23 5 (.int .u8 0) 1 Tryd.underlying23 Tryd.infoU rfl .i64 .i64 n (by omega) (by omega) w
theorem Blk.rowB {w : World} {g : Nat} {cs : Array Value} {t : TypeId} (h : Blk w g cs t) {n : Nat} {L : List UInt8} (hl : L.length = n) (hc : ∀ i, i < n → cs[i]? = some (.int .u8 (L.getD i 0).toNat)) : RowB w g n L :=
  ⟨hl, fun i hi => ⟨by rw [Nat.zero_add, h.cell]; exact hc i hi, h.free _⟩⟩
theorem RowB.zero {w : World} {g n : Nat} {t : TypeId} (h : Blk w g (zeroRow n) t) : RowB w g n (List.replicate n 0) :=
  h.rowB (by simp) (fun i hi => by rw [zeroRow_get n i hi]; simp [List.getD_eq_getElem?_getD, hi])
theorem Blk.new (w : World) (cs : Array Value) (t : TypeId) : Blk (w.alloc (.cells cs t)) w.heap.size cs t := by
  unfold Blk; exact heap_alloc_new w _
theorem Blk.alloc {w : World} {g : Nat} {cs : Array Value} {t : TypeId} (h : Blk w g cs t) (o : Obj) : Blk (w.alloc o) g cs t := h.same (Below.heap_alloc w o g h.lt)

theorem newBytesReader_any {w : World} {A : Option Addr} {n c : Nat} :
    Calls Tryd.prog 34 #[.slice A n c] w fun e w' => e = .returned (.pointer (some ⟨w.heap.size, 0, none⟩)) ∧ w' = w.alloc (.cells #[.slice A n c, .int .i64 0, .int .i64 (-1)] 86) := by
  go_enter Tryd.func34, Tryd.ntmps34
  go_wp2
  go_ret
  exact ⟨rfl, rfl⟩
theorem newTpReader_any {w : World} {p : Nat} :
    Calls Tryd.prog 32 #[.pointer (some ⟨p, 0, none⟩)] w fun e w' => e = .returned (.pointer (some ⟨w.heap.size, 0, none⟩)) ∧ w' = w.alloc (.cells #[.pointer (some ⟨p, 0, none⟩), .pointer none, .slice none 0 0] 77) := by
  go_enter Tryd.func32, Tryd.ntmps32
  go_wp2
  go_ret
  exact ⟨rfl, rfl⟩
/-- What a new bufio.Reader is. -/
def NewRd (rd : Value) (w : World) (e : Ending) (w' : World) : Prop :=
  e = .returned (.pointer (some ⟨w.heap.size, 0, none⟩)) ∧ Blk w' w.heap.size #[.slice (some ⟨w.heap.size + 1, 0, none⟩) 4096 4096, rd, .int .i64 0, .int .i64 0, .nilIface, .int .i64 (-1), .int .i64 (-1)] 112 ∧
    Blk w' (w.heap.size + 1) (zeroRow 4096) 5 ∧ Below w.heap.size w w' ∧ w'.heap.size = w.heap.size + 2
theorem assertB (v : Value) (w : World) : (Instr.typeAssert (.iface 66 v) 83 64 true).run Tryd.prog w = .ok (.tuple #[.pointer none, .bool false]) w :=
  run_assert_not Tryd.underlying64 (fun _ h => by cases h) (by decide) (by kernel_rfl) w
set_option maxRecDepth 200000 in
theorem newReaderB {w : World} {q : Nat} :
    Calls Tryd.prog 33 #[.iface 66 (.pointer (some ⟨q, 0, none⟩))] w (NewRd (.iface 66 (.pointer (some ⟨q, 0, none⟩))) w) := by
  have hmk : ∀ w, (Instr.makeSlice 23 (.int .i64 4096) (.int .i64 4096)).run Tryd.prog w = .ok (.slice (some ⟨w.heap.size, 0, none⟩) 4096 4096) (w.alloc (.cells (zeroRow 4096) 5)) := fun w => Tryd.mkB 4096 (by decide) w
  have ha := fun v w => assertB v w
  have hmx : max (4096 : Int) 16 = 4096 := by decide
  go_enter Tryd.func33, Tryd.ntmps33
  go_wp2
  go_ret
  have h2 := Blk.new (w.alloc (.cells #[.slice (some ⟨w.heap.size + 1, 0, none⟩) 4096 4096, .iface 66 (.pointer (some ⟨q, 0, none⟩)), .int .i64 0, .int .i64 0, .nilIface, .int .i64 (-1), .int .i64 (-1)] 112)) (zeroRow 4096) 5
  rw [World.size_alloc] at h2
  exact ⟨rfl, (Blk.new w _ _).alloc _, h2, ((Below.refl _ _).alloc (Nat.le_refl _) _).alloc (by simp) _, by simp⟩
theorem Sens.base {w : World} {E : Nat → Addr} {gs : List Nat} (h : Sens w E gs) : SensB w.heap.size w E gs := ⟨h, fun g hg => ⟨(h.sen g hg).lt, (h.sen g hg).lt'⟩⟩
/-- What impl.reader leaves. -/
def Made (E : Nat → Addr) (gs : List Nat) (S : List UInt8) (w : World) (e : Ending) (w' : World) : Prop :=
  ∃ (q sb t p bb : Nat), e = .returned (.pointer (some ⟨t, 0, none⟩)) ∧ sb ≠ q ∧ Tp (KB q sb) w.heap.size E gs t p bb (.slice none 0 0) w' S ∧ Below w.heap.size w w'
set_option maxRecDepth 200000 in
theorem reader_any {w : World} {E : Nat → Addr} {gs : List Nat} (hs : Sens w E gs) {A : Option Addr} {n c : Nat} {S : List UInt8} (hn : n = S.length) (hr : RB w A S) (hS : S.length ≤ 140737488355328) :
    Calls Tryd.prog 17 #[.slice A n c] w (Made E gs S w) := by
  have HR := Lib.hid (And.intro hr hs)
  clear hr hs
  subst hn
  go_enter Tryd.func17, Tryd.ntmps17
  go_wp2_with (first
    | (with_reducible refine at_appendB ?_; refine wpList_append_B rfl (.tmp 3) (.tmp 4) rfl w.heap.size (.slice (some ⟨w.heap.size, 0, none⟩) 0 0) [] rfl (OB.lit' rfl (Nat.le_refl _)) A S S.length c rfl rfl (HR.out.1.below ((Below.refl _ _).alloc (Nat.le_refl _) _)) (by simp; omega) (by simp) S.length (by simp) S rfl ?_; intro A3 c3 w1 hap; have HP := Lib.hid hap; clear hap)
    | (go_at_call 34; refine newBytesReader_any.mono ?_; rintro e w2 ⟨rfl, hw2⟩; have HW2 := Lib.hid hw2; clear hw2)
    | (go_at_call 33; refine newReaderB.mono ?_; rintro e w3 ⟨rfl, h3a, h3b, h3c, h3d⟩; have HW3 := Lib.hid (And.intro h3a (And.intro h3b (And.intro h3c h3d))); clear h3a h3b h3c h3d)
    | (go_at_call 32; refine newTpReader_any.mono ?_; rintro e w4 ⟨rfl, hw4⟩; have HW4 := Lib.hid hw4; clear hw4))
  go_ret
  have hap := HP.out
  have hb1 : Below w.heap.size w w1 := ((Below.refl _ _).alloc (Nat.le_refl _) _).grown hap.grown (by simp) (by simp [Value.ownBlock])
  have hs2 : w2.heap.size = w1.heap.size + 1 := by rw [HW2.out, World.size_alloc]
  have hs4 : w4.heap.size = w3.heap.size + 1 := by rw [HW4.out, World.size_alloc]
  obtain ⟨h3a, h3b, h3c, h3d⟩ := HW3.out
  have hA3 : ∃ a, A3 = some a := by
    rcases A3 with _ | a
    · have := hap.at_
      simp [Value.ownBlock] at this
    · exact ⟨a, rfl⟩
  obtain ⟨a, rfl⟩ := hA3
  have hpl := hap.own.place a rfl
  have halt : a.block < w1.heap.size := by
    have := hap.own.lt a.block (by rfl)
    exact this.2
  have hsz := hb1.size
  have b2 : Below w1.heap.size w1 w2 := by rw [HW2.out]; exact (Below.refl _ _).alloc (Nat.le_refl _) _
  have b4 : Below w3.heap.size w3 w4 := by rw [HW4.out]; exact (Below.refl _ _).alloc (Nat.le_refl _) _
  have k4 : Blk w4 w3.heap.size #[.pointer (some ⟨w2.heap.size, 0, none⟩), .pointer none, .slice none 0 0] 77 := by rw [HW4.out]; exact Blk.new _ _ _
  have k2 : Blk w2 w1.heap.size #[.slice (some a) S.length c3, .int .i64 0, .int .i64 (-1)] 86 := by rw [HW2.out]; exact Blk.new _ _ _
  have b14 : Below w1.heap.size w1 w4 := (b2.trans (h3c.mono (by omega))).trans (b4.mono (by omega))
  have b24 : Below w2.heap.size w2 w4 := h3c.trans (b4.mono (by omega))
  refine ⟨w1.heap.size, a.block, w3.heap.size, w2.heap.size, w2.heap.size + 1, rfl, by omega, ⟨by omega, ?_, k4, [], S, 0, false, -1, -1, ?_, rfl⟩, hb1.trans (b14.mono hsz)⟩
  · intro hk
    rcases hk with hk | hk | hk | hk <;> omega
  · refine ⟨⟨by omega, fun hk => by rcases hk with hk | hk <;> omega, fun hk => by rcases hk with hk | hk <;> omega, by omega, by omega, fun k hk => by rcases hk with rfl | rfl; omega; exact hpl.2⟩, ?_, ⟨_, (RowB.zero h3b).same (b4.block _ (by omega)), by simp⟩, by simp, ?_, (fun e => by cases e), HR.out.2.base.below (hb1.trans (b14.mono hsz))⟩
    · exact h3a.same (b4.block _ (by omega))
    · refine ⟨some a, S.length, c3, 0, S, -1, k2.same (b24.block _ (by omega)), hap.read.below b14, ?_, ?_, rfl, ?_, hap.le', Nat.zero_le _, rfl⟩
      · intro g o e; cases e; rfl
      · have := b14.size; omega
      · exact hap.le
end Go.Proofs.YtilhgjcjofobeaaDoor
