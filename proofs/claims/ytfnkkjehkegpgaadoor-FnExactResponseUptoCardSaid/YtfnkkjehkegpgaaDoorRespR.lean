/- The walks of zzTrimRight at a line without CR and LF, and of ReadResponse over the text of an answer. -/
import Derived.Test.YtfnkkjehkegpgaaDoorCodeL
import Derived.Test.YtfnkkjehkegpgaaDoorRespLaw
import Derived.Test.YtfnkkjehkegpgaaDoorBld
import Derived.BigQuiet
namespace Go.Proofs.YtfnkkjehkegpgaaDoor
open Go.RowKit

theorem Tp.belowC {K : Und} {base t p bb : Nat} {E : Nat → Addr} {gs : List Nat} {buf : Value} {w w' : World} {S : List UInt8} (h : Tp K base E gs t p bb buf w S) {N : Nat} (hb : Below N w w') (hN : ∀ k, Rd.S K p bb k → k < N) (ht : t < N) : Tp K base E gs t p bb buf w' S := by
  obtain ⟨h1, h2, h3, B, U, r, z, lb, lr, h4, h5⟩ := h
  exact ⟨h1, h2, h3.same (hb.block t ht), B, U, r, z, lb, lr, h4.below hb hN, h5⟩
theorem Tp.S_ltC {K : Und} {base t p bb : Nat} {E : Nat → Addr} {gs : List Nat} {buf : Value} {w : World} {S : List UInt8} (h : Tp K base E gs t p bb buf w S) : ∀ k, Rd.S K p bb k → k < w.heap.size := by
  obtain ⟨_, _, _, B, U, r, z, lb, lr, h, _⟩ := h
  exact h.S_lt
set_option maxRecDepth 200000 in
set_option maxHeartbeats 1600000 in
theorem trimRight_any (s : List UInt8) (hs : Clean s) (hl : s.length ≤ 9223372036854775807) (w : World) :
    Calls Tryd.prog 34 #[.string ⟨s.toArray⟩, .string ⟨#[13, 10]⟩] w fun e w' => e = .returned (.string ⟨s.toArray⟩) ∧ Only w w' := by
  rcases List.eq_nil_or_concat s with rfl | ⟨t, b, rfl⟩
  · go_enter Tryd.func34, Tryd.ntmps34
    go_wp2
    go_loopg [5, 6, 7] 0 (fun gk u5 _ _ wr => gk = 0 ∧ u5 = .int .i64 0 ∧ wr = w)
    case atStart => exact ⟨rfl, rfl, rfl⟩
    case round =>
      obtain ⟨rfl, rfl, rfl⟩ := hrel
      go_wp2
      go_ret
      exact ⟨rfl, Only.refl _⟩
  · simp only [List.concat_eq_append] at *
    have hb := hs b (by simp)
    have n13 : ((13 : Int) == (b.toNat : Int)) = false := by rw [beq_eq_false_iff_ne]; exact fun e => hb.1 ((byte_eq_iff b 13).1 e.symm)
    have n10 : ((10 : Int) == (b.toNat : Int)) = false := by rw [beq_eq_false_iff_ne]; exact fun e => hb.2 ((byte_eq_iff b 10).1 e.symm)
    have hx : (t ++ [b]).length = t.length + 1 := by simp
    have htl : t.length + 1 ≤ 9223372036854775807 := by omega
    clear hs hb hl
    go_enter Tryd.func34, Tryd.ntmps34
    go_wp2
    go_loopg [5, 6, 7] 0 (fun gk u5 _ _ wr => gk = 0 ∧ u5 = .int .i64 ((t.length : Int) + 1) ∧ wr = w)
    case atStart => exact ⟨rfl, (by first | rfl | simp), rfl⟩
    case round =>
      obtain ⟨rfl, rfl, rfl⟩ := hrel
      go_wp2
      go_loopg [6, 7] 2 (fun gk u6 u7 wr2 => ∃ j : Nat, j + gk = 2 ∧ u6 = .bool false ∧ u7 = .int .i64 j ∧ Hid (Only wr wr2))
      case atStart => exact ⟨0, rfl, rfl, rfl, Lib.hid (Only.refl _)⟩
      case round =>
        obtain ⟨j, hj, rfl, rfl, ho⟩ := hrel
        rcases (show j = 0 ∨ j = 1 ∨ j = 2 by omega) with rfl | rfl | rfl
        · go_wp2
          go_quiet (fail)
          go_wp2
          go_roundg 1
          case measure => omega
          case rel => exact ⟨1, rfl, rfl, rfl, Lib.hid (ho.out.drewN nq)⟩
        · go_wp2
          go_quiet (fail)
          go_wp2
          go_roundg 0
          case measure => omega
          case rel => exact ⟨2, rfl, rfl, rfl, Lib.hid (ho.out.drewN nq)⟩
        · go_wp2
          go_ret
          exact ⟨ret_str (by rw [List.take_of_length_le (by simp)]), ho.out⟩
/-- What ReadResponse gives. -/
def RetResp (E : Nat → Addr) (gs : List Nat) (n : Int) (m : List UInt8) (k : Int) (e : Ending) : Prop :=
  ∃ er : Er, er.in gs ∧ er.num = k ∧ e = .returned (.tuple #[.int .i64 n, .string ⟨m.toArray⟩, er.val E])
/-- The loop's relation. -/
def RespRel (K : Und) (base : Nat) (E : Nat → Addr) (gs : List Nat) (t p bb : Nat) (buf : Value) (B : Nat) (n : Int) (M rest : List UInt8) (N : Nat) (w : World) (er : Er) (gk : Nat) (u4 u6 u7 : Value) (wr : World) : Prop :=
  ∃ (todo : List AnsL) (m : List UInt8) (cont : Bool), u4 = .int .i64 n ∧ u6 = er.val E ∧ u7 = .bool cont ∧ cont = (!todo.isEmpty) ∧ Bd wr B B m ∧ m ++ ansMore todo = M ∧ Tp K base E gs t p bb buf wr (ansText n todo ++ rest) ∧ AnsTail todo ∧ todo.length < gk ∧ Chg (Rd.S K p bb) w wr ∧ B ≤ wr.heap.size ∧ (ansText n todo ++ rest).length ≤ N
theorem Er.proto_of {er : Er} (h : er.num = 3) : ∃ s, er = .proto s := by
  cases er with
  | nil => cases h
  | sent g =>
    exfalso
    have hn : (Er.sent g).num = if g = 0 then 1 else if g = 1 then 2 else 5 := rfl
    rw [hn] at h
    by_cases h1 : g = 0
    · rw [if_pos h1] at h; cases h
    · by_cases h2 : g = 1
      · rw [if_neg h1, if_pos h2] at h; cases h
      · rw [if_neg h1, if_neg h2] at h; cases h
  | proto s => exact ⟨s, rfl⟩
  | stat a => cases h
theorem Er.stat_of {er : Er} (h : er.num = 4) : ∃ a, er = .stat a := by
  cases er with
  | nil => cases h
  | sent g =>
    exfalso
    have hn : (Er.sent g).num = if g = 0 then 1 else if g = 1 then 2 else 5 := rfl
    rw [hn] at h
    by_cases h1 : g = 0
    · rw [if_pos h1] at h; cases h
    · by_cases h2 : g = 1
      · rw [if_neg h1, if_pos h2] at h; cases h
      · rw [if_neg h1, if_neg h2] at h; cases h
  | proto s => cases h
  | stat a => exact ⟨a, rfl⟩
theorem writeNl_any {w : World} {B b : Nat} {l : List UInt8} (h : Bd w B b l) (hlen : l.length + 1 ≤ 140737488355328) (hw : B ≤ w.heap.size) :
    Calls Tryd.prog 33 #[.pointer (some ⟨b, 0, none⟩), .int .u8 10] w fun e w' => e = .returned .nilIface ∧ Bd w' B b (l ++ [10]) ∧ Below B w w' := writeByteB_any h 10 hlen hw
theorem below_size {B : Nat} {w w' : World} (h : Below B w w') (hB : B ≤ w.heap.size) : B ≤ w'.heap.size := Nat.le_trans hB h.size
theorem below_only {B : Nat} {a w w' : World} (h : Below B a w) (ho : Only w w') : Below B a w' := h.trans ⟨ho.os, ho.tape, ho.output, by rw [ho.heap]; exact Nat.le_refl _, fun k _ => by rw [ho.heap]⟩
/-- A line has been read and parsed: the builder is as it was. -/
theorem RespStep.mk' {w w3 w4 : World} {B : Nat} {m : List UInt8} {S : Nat → Prop} (h : Bd w B B m) (hS : ∀ k, S k → k < B) (hB : B ≤ w.heap.size) (hC : Chg S w w3) (hb : Below w3.heap.size w3 w4) : Bd w4 B B m ∧ Below B w3 w4 ∧ B ≤ w4.heap.size := by
  have h3 : B ≤ w3.heap.size := Nat.le_trans hB hC.size
  refine ⟨(h.of (fun k hk hl => hC.block k hl (fun e => by have := hS k e; omega))).of (fun k _ hl => hb.block k hl), hb.mono h3, Nat.le_trans h3 hb.size⟩
theorem ansMore_len {m M : List UInt8} {todo : List AnsL} (h : m ++ ansMore todo = M) : m.length ≤ M.length := by
  rw [← h, List.length_append]; omega
set_option maxRecDepth 200000 in
set_option maxHeartbeats 6400000 in
theorem readResponse_any {K : Und} (hK : FillOK K) {base t p bb : Nat} {E : Nat → Addr} {gs : List Nat} {w : World} {rest : List UInt8} {buf : Value} (l : AnsL) (r : List AnsL) (n : Int) (h100 : 100 ≤ n) (h999 : n ≤ 999) (hwell : AnsWell (l :: r)) (h : Tp K base E gs t p bb buf w (ansText n (l :: r) ++ rest))
    (hg : 0 ∈ gs) (hf : 4 ∈ gs) (hx : 5 ∈ gs) (hS : (ansText n (l :: r) ++ rest).length ≤ 4398046511104) (hM : (ansMsg (l :: r)).length ≤ 4398046511104) (x : Int) :
    Calls Tryd.prog 21 #[.pointer (some ⟨t, 0, none⟩), .int .i64 x] w fun e w' => RetResp E gs n (ansMsg (l :: r)) (codeErr n x) e ∧ Tp K base E gs t p bb buf w' rest ∧ Chg (Rd.S K p bb) w w' := by
  obtain ⟨hcl, hlb, htail⟩ := hwell
  have hrl := readCodeLine_line hK h hg hf hx (by omega) (ansText_cons n l r rest) (ansLine_clean n h100 h999 r.isEmpty hcl).cr10 x
  rw [dropCR_cr, parse_line n h100 h999 r.isEmpty l hlb x] at hrl
  have hMl : ansMsg (l :: r) = l.t ++ ansMore r := rfl
  rw [hMl] at hM ⊢
  obtain ⟨k, hk⟩ : ∃ k, k = codeErr n x := ⟨_, rfl⟩
  have hk4 : k = 0 ∨ k = 4 := by rcases codeErr_cases n x with ⟨h, _⟩ | ⟨h, _⟩ <;> rw [hk, h] <;> simp
  have hS2 : (ansText n r ++ rest).length ≤ 4398046511104 := by
    rw [ansText_cons, List.length_append, List.length_cons] at hS; omega
  rw [← hk] at hrl ⊢
  have hltl : l.t.length ≤ 4398046511104 := by rw [List.length_append] at hM; omega
  obtain ⟨M, hMe⟩ : ∃ M, M = l.t ++ ansMore r := ⟨_, rfl⟩
  rw [← hMe] at hM ⊢
  obtain ⟨mu, hmu⟩ : ∃ mu, mu = (!r.isEmpty) := ⟨_, rfl⟩
  rw [← hmu] at hrl
  have HMU := Lib.hid hmu
  clear hmu
  have H := Lib.hid (And.intro hrl (And.intro h (And.intro htail (And.intro hS2 hM))))
  have HM := Lib.hid hMe
  obtain ⟨N, hN⟩ : ∃ N, N = (ansText n r ++ rest).length := ⟨_, rfl⟩
  have HNN := Lib.hid hN
  clear hrl h htail hcl hlb hMl hk hS hS2 hMe hN
  go_enter Tryd.func21, Tryd.ntmps21
  go_wp2_with (first
    | (go_at_call 29; refine H.out.1.mono ?_; rintro e w1 ⟨⟨er, hin, hnum, rfl⟩, hT1, hC1⟩; have H1 := Lib.hid (And.intro hin (And.intro hnum (And.intro hT1 hC1))); clear hin hnum hT1 hC1)
    | (go_at_call 30; refine (writeStr_any (B := w1.heap.size) (b := w1.heap.size) (Bd.new w1) l.t (by simp; omega) (by simp)).mono ?_; rintro e w2 ⟨rfl, hbd, hb2⟩; have H2 := Lib.hid (And.intro hbd hb2); clear hbd hb2))
  go_loopg [4, 6, 7, 11, 12, 13, 14] (r.length + 1) (fun gk u4 u6 u7 _ _ _ _ wr => RespRel K base E gs t p bb buf w1.heap.size n M rest N w er gk u4 u6 u7 wr)
  case atStart =>
    obtain ⟨hin, hnum, hT1, hC1⟩ := H1.out
    obtain ⟨hbd, hb2⟩ := H2.out
    have hb12 : Below w1.heap.size w1 w2 := ((Below.refl _ w1).alloc (Nat.le_refl _) _).trans hb2
    exact ⟨r, l.t, mu, rfl, rfl, rfl, HMU.out, (by simpa using hbd), HM.out.symm, hT1.belowC hb12 hT1.S_ltC hT1.2.2.1.lt, H.out.2.2.1, Nat.lt_succ_self _, hC1.of_below hb12 (fun k hk _ => Nat.lt_of_lt_of_le hk hC1.size), hb12.size, Nat.le_of_eq HNN.out.symm⟩
  case round =>
    obtain ⟨todo, m, cont, rfl, rfl, rfl, hcont, hbd, hmm, hT, htl, hgk, hC, hBs, hNl⟩ := hrel
    have hml := ansMore_len hmm
    have hMM := H.out.2.2.2.2
    have hNN := H.out.2.2.2.1
    have HNl := HNN.out
    have hSB : ∀ k, Rd.S K p bb k → k < w1.heap.size := H1.out.2.2.1.S_ltC
    have htB : t < w1.heap.size := H1.out.2.2.1.2.2.1.lt
    cases todo with
    | nil =>
      obtain rfl : cont = false := hcont
      have hst := strB_any hbd hBs
      have hme : m = M := by simpa [ansMore] using hmm
      have hTr : Tp K base E gs t p bb buf wr rest := hT
      subst hme
      have HB := Lib.hid (And.intro hst (And.intro hTr (And.intro hC (And.intro hBs (And.intro hSB htB)))))
      clear hst hTr hT hC hBs hbd hmm htl hml hMM hNN HNl hNl hSB htB
      have hErr := H1.out.2.1
      have hfin : ∀ (er2 : Er) (w3 w4 : World), er2.in gs → er2.num = k → Below w1.heap.size wr w3 → Below w1.heap.size w3 w4 → RetResp E gs n m k (.returned (.tuple #[.int .i64 n, .string ⟨m.toArray⟩, er2.val E])) ∧ Tp K base E gs t p bb buf w4 rest ∧ Chg (Rd.S K p bb) w w4 := fun er2 w3 w4 h1 h2 h3 h4 => by
        obtain ⟨_, hT, hC, _, hSB, htB⟩ := HB.out
        exact ⟨⟨er2, h1, h2, rfl⟩, hT.belowC (h3.trans h4) hSB htB, hC.of_below (h3.trans h4) (fun k hk _ => Nat.lt_of_lt_of_le hk H1.out.2.2.2.size)⟩
      have HF := Lib.hid hfin
      clear hfin
      rcases hk4 with rfl | rfl
      · obtain rfl := Er.zero hErr
        clear hErr
        simp only [Er.val]
        go_wp2_with (go_at_call 35; refine HB.out.1.mono ?_; rintro e w3 ⟨rfl, hb3⟩; have H3 := Lib.hid hb3; clear hb3)
        go_ret3
        exact HF.out .nil w3 w3 trivial rfl H3.out (Below.refl _ _)
      · obtain ⟨ea, rfl⟩ := Er.stat_of hErr
        clear hErr
        simp only [Er.val]
        cases mu
        · go_wp2_with (go_at_call 35; refine HB.out.1.mono ?_; rintro e w3 ⟨rfl, hb3⟩; have H3 := Lib.hid hb3; clear hb3)
          go_ret3
          exact HF.out (.stat ea) w3 w3 trivial rfl H3.out (Below.refl _ _)
        · rcases m with _ | ⟨m0, m'⟩
          · go_wp2_with (go_at_call 35; refine HB.out.1.mono ?_; rintro e w3 ⟨rfl, hb3⟩; have H3 := Lib.hid hb3; clear hb3)
            go_ret3
            exact HF.out (.stat ea) w3 w3 trivial rfl H3.out (Below.refl _ _)
          · go_wp2_with (go_at_call 35; refine HB.out.1.mono ?_; rintro e w3 ⟨rfl, hb3⟩; have H3 := Lib.hid hb3; clear hb3)
            go_ret3
            exact HF.out (.stat ⟨w3.heap.size, 0, none⟩) w3 _ trivial rfl H3.out ((Below.refl _ _).alloc (by have := H3.out.size; have := HB.out.2.2.2.1; omega) _)
    | cons l2 r2 =>
      obtain rfl : cont = true := hcont
      obtain ⟨hcl2, hbare2, htl2⟩ := htl
      have hLc := ansLine_clean n h100 h999 r2.isEmpty hcl2
      have hrl2 := tReadLine_line hK hT hg hf (by omega) (ansText_cons n l2 r2 rest) hLc.cr10
      rw [dropCR_cr] at hrl2
      have hLl : (ansLine n r2.isEmpty l2).length ≤ 4398046511104 := by rw [ansText_cons, List.length_append, List.length_append] at hNl; omega
      have hNl2 : (ansText n r2 ++ rest).length ≤ N := by rw [ansText_cons, List.length_append, List.length_cons] at hNl; omega
      have hpa := fun w (hs : Sens w E gs) => parse_any E gs (ansLine n r2.isEmpty l2) 0 (by omega) w hs hx
      have hmm2 : (m ++ 10 :: l2.t) ++ ansMore r2 = M := by rw [← hmm]; simp [ansMore]
      have hml2 := ansMore_len hmm2
      rw [List.length_append, List.length_cons] at hml2
      have hlen1 : m.length + (l2.t.length + 1) ≤ 4398046511104 := by omega
      have hgk2 : r2.length + 1 < gk := by simpa using hgk
      have HK := Lib.hid (And.intro hbd (And.intro hT (And.intro hC (And.intro hBs (And.intro hSB htB)))))
      have HQ := Lib.hid (And.intro hmm2 (And.intro htl2 (And.intro hNl2 hcl2)))
      clear hbd hT hC hBs hSB htB hmm hmm2 htl2 hNl hNl2 hml hml2 hMM hNN HNl hgk
      by_cases hb2 : l2.bare = true
      · obtain ⟨hr2, hok⟩ := hbare2 hb2
        have hLe : ansLine n r2.isEmpty l2 = l2.t := by unfold ansLine; rw [if_pos hb2]
        rw [hLe] at hpa hrl2 hLc hLl
        rw [parse_bare hok] at hpa
        have htr := fun w => trimRight_any l2.t hLc (by omega) w
        have HL := Lib.hid (And.intro hrl2 (And.intro hpa (And.intro htr hr2)))
        clear hrl2 hpa htr hr2 hok hLe hLc hbare2 hb2
        go_wp2_with (first
          | (go_at_call 31; refine HL.out.1.mono ?_; rintro e w3 ⟨rfl, hT3, hC3⟩; have H3 := Lib.hid (And.intro hT3 hC3); clear hT3 hC3)
          | (go_at_call 32; refine (HL.out.2.1 _ H3.out.1.sens.s).mono ?_; rintro e w4 ⟨⟨er2, hin2, hnum2, rfl⟩, hb4⟩; obtain ⟨s2, rfl⟩ := Er.proto_of hnum2; clear hin2 hnum2; rw [show Er.val E (.proto s2) = .iface 73 (.string s2) from rfl]; have H4 := Lib.hid (RespStep.mk' HK.out.1 HK.out.2.2.2.2.1 HK.out.2.2.2.1 H3.out.2 hb4); clear hb4)
          | (go_at_call 33; refine (writeNl_any H4.out.1 (by omega) H4.out.2.2).mono ?_; rintro e w5 ⟨rfl, hbd5, hb5⟩; have H5 := Lib.hid (And.intro hbd5 (H4.out.2.1.trans hb5)); clear hbd5 hb5)
          | (go_at_call 34; refine (HL.out.2.2.1 _).mono ?_; rintro e w6 ⟨rfl, ho6⟩; have H6 := Lib.hid ho6; clear ho6)
          | (go_at_call 30; refine (writeStr_any (H5.out.1.of (fun k _ _ => H6.out.at_ k)) l2.t (by rw [List.length_append]; show m.length + 1 + l2.t.length ≤ _; omega) (by rw [H6.out.heap]; exact below_size H5.out.2 (Nat.le_trans HK.out.2.2.2.1 H3.out.2.size))).mono ?_; rintro e w7 ⟨rfl, hbd7, hb7⟩; have H7 := Lib.hid (And.intro hbd7 ((below_only H5.out.2 H6.out).trans hb7)); clear hbd7 hb7))
        go_roundg (r2.length + 1)
        case measure => exact hgk2
        case rel =>
          obtain ⟨hbd, hT, hC, hBs, hSB, htB⟩ := HK.out
          obtain ⟨hmm2, htl2, hNl2, hcl2⟩ := HQ.out
          exact ⟨r2, m ++ 10 :: l2.t, true, rfl, rfl, rfl, (by cases hr2 : r2 with | nil => exact absurd hr2 HL.out.2.2.2 | cons _ _ => rfl), (by simpa using H7.out.1), hmm2, H3.out.1.belowC H7.out.2 hSB htB, htl2, Nat.lt_succ_self _, (hC.trans H3.out.2).of_below H7.out.2 (fun k hk _ => Nat.lt_of_lt_of_le hk H1.out.2.2.2.size), below_size H7.out.2 (Nat.le_trans hBs H3.out.2.size), hNl2⟩
      · have hb3 : l2.bare = false := by simpa using hb2
        rw [parse_line n h100 h999 r2.isEmpty l2 hb3 0, codeErr_zero] at hpa
        obtain ⟨co, hco⟩ : ∃ co, co = (!r2.isEmpty) := ⟨_, rfl⟩
        rw [← hco] at hpa
        obtain ⟨L, hL⟩ : ∃ L, L = ansLine n r2.isEmpty l2 := ⟨_, rfl⟩
        rw [← hL] at hpa hrl2
        have HL := Lib.hid (And.intro hrl2 (And.intro hpa hco))
        clear hrl2 hpa hco hL hLc hLl hbare2 hb2 hb3
        go_wp2_with (first
          | (go_at_call 31; refine HL.out.1.mono ?_; rintro e w3 ⟨rfl, hT3, hC3⟩; have H3 := Lib.hid (And.intro hT3 hC3); clear hT3 hC3)
          | (go_at_call 32; refine (HL.out.2.1 _ H3.out.1.sens.s).mono ?_; rintro e w4 ⟨⟨er2, hin2, hnum2, rfl⟩, hb4⟩; obtain rfl := Er.zero hnum2; clear hin2 hnum2; rw [show Er.val E .nil = .nilIface from rfl]; have H4 := Lib.hid (RespStep.mk' HK.out.1 HK.out.2.2.2.2.1 HK.out.2.2.2.1 H3.out.2 hb4); clear hb4)
          | (go_at_call 33; refine (writeNl_any H4.out.1 (by omega) H4.out.2.2).mono ?_; rintro e w5 ⟨rfl, hbd5, hb5⟩; have H5 := Lib.hid (And.intro hbd5 (H4.out.2.1.trans hb5)); clear hbd5 hb5)
          | (go_at_call 30; refine (writeStr_any H5.out.1 l2.t (by rw [List.length_append]; show m.length + 1 + l2.t.length ≤ _; omega) (below_size H5.out.2 (Nat.le_trans HK.out.2.2.2.1 H3.out.2.size))).mono ?_; rintro e w7 ⟨rfl, hbd7, hb7⟩; have H7 := Lib.hid (And.intro hbd7 (H5.out.2.trans hb7)); clear hbd7 hb7))
        go_roundg (r2.length + 1)
        case measure => exact hgk2
        case rel =>
          obtain ⟨hbd, hT, hC, hBs, hSB, htB⟩ := HK.out
          obtain ⟨hmm2, htl2, hNl2, hcl2⟩ := HQ.out
          exact ⟨r2, m ++ 10 :: l2.t, co, rfl, rfl, rfl, HL.out.2.2, (by simpa using H7.out.1), hmm2, H3.out.1.belowC H7.out.2 hSB htB, htl2, Nat.lt_succ_self _, (hC.trans H3.out.2).of_below H7.out.2 (fun k hk _ => Nat.lt_of_lt_of_le hk H1.out.2.2.2.size), below_size H7.out.2 (Nat.le_trans hBs H3.out.2.size), hNl2⟩
end Go.Proofs.YtfnkkjehkegpgaaDoor
