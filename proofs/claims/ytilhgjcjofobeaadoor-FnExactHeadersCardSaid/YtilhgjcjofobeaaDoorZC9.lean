/- The walks of bytesIndex and bytesCut, where what is sought is one byte. | The walks of upcomingHeaderKeys and mustHaveFieldNameColon. -/
import Derived.Test.YtilhgjcjofobeaaDoorZC2
import Derived.Deep.LoopGhost
import Derived.BigQuiet
import Derived.Test.YtilhgjcjofobeaaDoorZC7
import Derived.Test.YtilhgjcjofobeaaDoorZRdL
import Derived.Lib.SlBytesConst
namespace Go.Proofs.YtilhgjcjofobeaaDoor
open Go.RowKit

/-- Where a byte stands first. -/
def idxI (b : UInt8) (l : List UInt8) : Int := match l.findIdx? (· == b) with
  | some i => i
  | none => -1
theorem idxI_cases (b : UInt8) (l : List UInt8) : (b ∉ l ∧ idxI b l = -1) ∨ (∃ x y, l = x ++ b :: y ∧ b ∉ x ∧ idxI b l = x.length) := by
  rcases h : l.findIdx? (· == b) with _ | i
  · refine .inl ⟨fun hm => ?_, by unfold idxI; rw [h]⟩
    rw [List.findIdx?_eq_none_iff] at h
    have := h b hm
    simp at this
  · obtain ⟨hlt, h1, h2⟩ := List.findIdx?_eq_some_iff_getElem.1 h
    have hb : l[i] = b := by simpa using h1
    refine .inr ⟨l.take i, l.drop (i + 1), ?_, fun hm => ?_, ?_⟩
    · conv => lhs; rw [← List.take_append_drop i l, List.drop_eq_getElem_cons hlt, hb]
    · obtain ⟨j, hj⟩ := List.mem_iff_getElem?.1 hm
      rw [List.getElem?_take] at hj
      split at hj
      · rename_i hji
        obtain ⟨hjl, hj⟩ := List.getElem?_eq_some_iff.1 hj
        have := h2 j hji
        rw [hj] at this
        simp at this
      · cases hj
    · unfold idxI
      rw [h, List.length_take, Nat.min_eq_left (Nat.le_of_lt hlt)]
theorem idxI_at (b : UInt8) (l : List UInt8) (k : Nat) (h : k < l.length) (hn : b ∉ l.take k) (hb : l[k] = b) : idxI b l = k := by
  have : l.findIdx? (· == b) = some k := by
    rw [List.findIdx?_eq_some_iff_getElem]
    refine ⟨h, by simpa using hb, fun j hj => ?_⟩
    have hjl : j < l.length := by omega
    intro e
    have e : l[j] = b := by simpa using e
    exact hn (by
      rw [← e]
      exact List.mem_iff_getElem?.2 ⟨j, by rw [List.getElem?_take, if_pos hj]; exact List.getElem?_eq_getElem hjl⟩)
  unfold idxI
  rw [this]
theorem idxI_no (b : UInt8) (l : List UInt8) (hn : b ∉ l) : idxI b l = -1 := by
  rcases idxI_cases b l with ⟨_, h⟩ | ⟨x, y, h, _⟩
  · exact h
  · exact absurd (h ▸ by simp) hn
theorem take_succ_no {b : UInt8} {l : List UInt8} {k : Nat} (h : k < l.length) (hn : b ∉ l.take k) (hb : ¬ l[k] = b) : b ∉ l.take (k + 1) := by
  rw [List.take_succ_eq_append_getElem h, List.mem_append, not_or]
  exact ⟨hn, by simp; exact fun e => hb e.symm⟩
set_option maxRecDepth 200000 in
theorem bytesIndex_any {w : World} {g o g2 o2 n c d : Nat} {l : List UInt8} (b : UInt8) (hn : n = l.length) (hl : l.length ≤ 4611686018427387904) (hlc : l.length ≤ c) (hr : RB w (some ⟨g, o, none⟩) l) (hs : RB w (some ⟨g2, o2, none⟩) [b]) :
    Calls Tryd.prog 75 #[.slice (some ⟨g, o, none⟩) n c, .slice (some ⟨g2, o2, none⟩) 1 d] w fun e w' => e = .returned (.int .i64 (idxI b l)) ∧ Only w w' := by
  subst hn
  have HR := Lib.hid (And.intro hr hs)
  clear hr hs
  go_enter Tryd.func75, Tryd.ntmps75
  go_wp2
  go_loopg [5] (l.length) (fun gk i wr => ∃ k : Nat, k + gk = l.length ∧ i = .int .i64 k ∧ Hid (Only w wr ∧ b ∉ l.take k))
  case atStart => exact ⟨0, by omega, rfl, Lib.hid ⟨Only.refl _, by simp⟩⟩
  case round =>
    obtain ⟨k, hk, rfl, hq⟩ := hrel
    have hwr : IntKind.i64.wrap ((k : Int) + 1) = (k : Int) + 1 := by rw [IntKind.wrap_i64]; omega
    by_cases hlt : k < l.length
    · have hle : (k : Int) + 1 ≤ (l.length : Int) := by omega
      have hkc : (k : Int) + 1 ≤ (c : Int) := by omega
      have hkc2 : ¬ c = k := by omega
      have st1 : ∀ m, (convert 23 9 (.slice (some ⟨g, o + k, none⟩) 1 (c - k))).run Tryd.prog (wr.drewN m) = .ok (.string ⟨[l[k]].toArray⟩) (wr.drewN m) := fun m => run_toStringR (l := [l[k]]) rfl (by
        have h1 : RB wr (some ⟨g, o, none⟩) l := HR.out.1.same (fun _ _ _ _ => hq.out.1.at_ _)
        have h2 := h1.drop k
        have h3 : RB wr (some ⟨g, o + k, none⟩) [l[k]] := RB.left (a := [l[k]]) (b := l.drop (k + 1)) (by rw [List.drop_eq_getElem_cons hlt] at h2; exact h2)
        exact h3.same (fun _ _ _ _ => rfl))
      have st2 : ∀ m, (convert 23 9 (.slice (some ⟨g2, o2, none⟩) 1 d)).run Tryd.prog (wr.drewN m) = .ok (.string ⟨[b].toArray⟩) (wr.drewN m) := fun m => run_toStringR (l := [b]) rfl (HR.out.2.same (fun _ _ _ _ => hq.out.1.at_ _))
      have hk1 : k + 1 - k = 1 := by omega
      by_cases hb : l[k] = b
      · have hbb : ([l[k]] == [b]) = true := by simp [hb]
        have HB := Lib.hid hb
        clear hb
        go_wp2
        go_quiet (fail)
        go_wp2
        go_ret
        exact ⟨by rw [idxI_at b l k hlt hq.out.2 HB.out]; rfl, hq.out.1.drewN _⟩
      · have hbb : ([l[k]] == [b]) = false := by simp [hb]
        have HB := Lib.hid hb
        clear hb
        go_wp2
        go_quiet (fail)
        go_wp2
        go_roundg (gk - 1)
        case measure => omega
        case rel => exact ⟨k + 1, by omega, by go_num, Lib.hid ⟨hq.out.1.drewN _, take_succ_no hlt hq.out.2 HB.out⟩⟩
    · have hkl : k = l.length := by omega
      have hge : ¬ (k : Int) + 1 ≤ (l.length : Int) := by omega
      go_wp2
      go_ret
      have h2 := hq.out.2
      rw [List.take_of_length_le (by omega)] at h2
      exact ⟨by rw [idxI_no b l h2]; rfl, hq.out.1⟩
/-- What bytesCut gives: nothing found, or the parts ahead of the byte and behind it. -/
def CutSays (b : UInt8) (l : List UInt8) (g o c : Nat) (e : Ending) : Prop :=
  (b ∉ l ∧ e = .returned (.tuple #[.slice (some ⟨g, o, none⟩) l.length c, .slice none 0 0, .bool false])) ∨
  (∃ x y, l = x ++ b :: y ∧ b ∉ x ∧ e = .returned (.tuple #[.slice (some ⟨g, o, none⟩) x.length c, .slice (if c = x.length + 1 then some ⟨g, o, none⟩ else some ⟨g, o + (x.length + 1), none⟩) y.length (c - (x.length + 1)), .bool true]))
set_option maxRecDepth 200000 in
theorem cut_no {w : World} {g o g2 o2 n c d : Nat} (h : Calls Tryd.prog 75 #[.slice (some ⟨g, o, none⟩) n c, .slice (some ⟨g2, o2, none⟩) 1 d] w fun e w' => e = .returned (.int .i64 (-1)) ∧ Only w w') :
    Calls Tryd.prog 49 #[.slice (some ⟨g, o, none⟩) n c, .slice (some ⟨g2, o2, none⟩) 1 d] w fun e w' => e = .returned (.tuple #[.slice (some ⟨g, o, none⟩) n c, .slice none 0 0, .bool false]) ∧ Only w w' := by
  have HI := Lib.hid h
  clear h
  go_enter Tryd.func49, Tryd.ntmps49
  go_wp2_with (go_at_call 75; refine HI.out.mono ?_; rintro e w1 ⟨rfl, hb1⟩; have H1 := Lib.hid hb1; clear hb1)
  go_ret3
  exact ⟨rfl, H1.out⟩
set_option maxRecDepth 200000 in
theorem cut_end {w : World} {g o g2 o2 m d : Nat} (hm : m ≤ 4611686018427387904) (h : Calls Tryd.prog 75 #[.slice (some ⟨g, o, none⟩) (m + 1) (m + 1), .slice (some ⟨g2, o2, none⟩) 1 d] w fun e w' => e = .returned (.int .i64 m) ∧ Only w w') :
    Calls Tryd.prog 49 #[.slice (some ⟨g, o, none⟩) (m + 1) (m + 1), .slice (some ⟨g2, o2, none⟩) 1 d] w fun e w' => e = .returned (.tuple #[.slice (some ⟨g, o, none⟩) m (m + 1), .slice (some ⟨g, o, none⟩) 0 0, .bool true]) ∧ Only w w' := by
  have HI := Lib.hid h
  have hw1 : IntKind.i64.wrap ((m : Int) + 1) = (m : Int) + 1 := by rw [IntKind.wrap_i64]; omega
  clear h
  go_enter Tryd.func49, Tryd.ntmps49
  go_wp2_with (go_at_call 75; refine HI.out.mono ?_; rintro e w1 ⟨rfl, hb1⟩; have H1 := Lib.hid hb1; clear hb1)
  go_quiet (fail)
  go_wp2
  go_ret3
  exact ⟨by simp, H1.out.drewN _⟩
set_option maxRecDepth 200000 in
theorem cut_mid {w : World} {g o g2 o2 m n c d : Nat} (hm : m ≤ 4611686018427387904) (hmn : m < n) (hnc : n ≤ c) (hne : ¬ c = m + 1) (h : Calls Tryd.prog 75 #[.slice (some ⟨g, o, none⟩) n c, .slice (some ⟨g2, o2, none⟩) 1 d] w fun e w' => e = .returned (.int .i64 m) ∧ Only w w') :
    Calls Tryd.prog 49 #[.slice (some ⟨g, o, none⟩) n c, .slice (some ⟨g2, o2, none⟩) 1 d] w fun e w' => e = .returned (.tuple #[.slice (some ⟨g, o, none⟩) m c, .slice (some ⟨g, o + (m + 1), none⟩) (n - (m + 1)) (c - (m + 1)), .bool true]) ∧ Only w w' := by
  have HI := Lib.hid h
  have hw1 : IntKind.i64.wrap ((m : Int) + 1) = (m : Int) + 1 := by rw [IntKind.wrap_i64]; omega
  have hmc : (m : Int) ≤ (c : Int) := by omega
  have hmn1 : (m : Int) + 1 ≤ (n : Int) := by omega
  clear h
  go_enter Tryd.func49, Tryd.ntmps49
  go_wp2_with (go_at_call 75; refine HI.out.mono ?_; rintro e w1 ⟨rfl, hb1⟩; have H1 := Lib.hid hb1; clear hb1)
  go_quiet (fail)
  go_wp2
  go_ret3
  exact ⟨rfl, H1.out.drewN _⟩
theorem bytesCut_any {w : World} {g o g2 o2 n c d : Nat} {l : List UInt8} (b : UInt8) (hn : n = l.length) (hl : l.length ≤ 4611686018427387904) (hlc : l.length ≤ c) (hr : RB w (some ⟨g, o, none⟩) l) (hs : RB w (some ⟨g2, o2, none⟩) [b]) :
    Calls Tryd.prog 49 #[.slice (some ⟨g, o, none⟩) n c, .slice (some ⟨g2, o2, none⟩) 1 d] w fun e w' => CutSays b l g o c e ∧ Only w w' := by
  subst hn
  have hI := bytesIndex_any (d := d) b rfl hl hlc hr hs
  rcases idxI_cases b l with ⟨hno, hi⟩ | ⟨x, y, hxy, hx, hi⟩
  · rw [hi] at hI
    exact (cut_no hI).mono fun e w' hh => ⟨.inl ⟨hno, hh.1⟩, hh.2⟩
  · rw [hi] at hI
    have hxl : x.length + 1 + y.length = l.length := by rw [hxy, List.length_append, List.length_cons]; omega
    by_cases hcx : c = x.length + 1
    · have hll : l.length = x.length + 1 := by omega
      have hy : y.length = 0 := by omega
      rw [hll, hcx] at hI ⊢
      exact (cut_end (by omega) hI).mono fun e w' hh => ⟨.inr ⟨x, y, hxy, hx, by rw [if_pos rfl, hy, Nat.sub_self]; exact hh.1⟩, hh.2⟩
    · refine (cut_mid (by omega) (by omega) hlc hcx hI).mono fun e w' hh => ⟨.inr ⟨x, y, hxy, hx, ?_⟩, hh.2⟩
      rw [if_neg hcx, show y.length = l.length - (x.length + 1) by omega]
      exact hh.1
end Go.Proofs.YtilhgjcjofobeaaDoor
namespace Go.Proofs.YtilhgjcjofobeaaDoor
open Go.RowKit

/-- What a cut gives, either way. -/
def CutU (l : List UInt8) (g o : Nat) (w : World) (e : Ending) (w' : World) : Prop :=
  ∃ (L1 L2 : List UInt8) (c1 c2 : Nat) (A2 : Option Addr) (q : Bool), e = .returned (.tuple #[.slice (some ⟨g, o, none⟩) L1.length c1, .slice A2 L2.length c2, .bool q]) ∧ (l ≠ [] → L2.length < l.length) ∧ L2.length ≤ c2 ∧ RB w' A2 L2 ∧
    (∀ c0 t, L1 = c0 :: t → w'.cell? ⟨g, o, none⟩ = some (.int .u8 c0.toNat)) ∧ (L2 ≠ [] → ∃ g2 o2, A2 = some ⟨g2, o2, none⟩) ∧ Only w w'
theorem RB.byteM (w : World) (b : UInt8) (t : TypeId) (fr : Nat × Nat) : RB (w.alloc (.cells #[.int .u8 b.toNat] t fr)) (some ⟨w.heap.size, 0, none⟩) [b] := by
  intro _
  refine ⟨_, _, rfl, fun i u hu => ?_⟩
  rcases i with _ | i
  · simp at hu; subst hu; rw [World.cell?_alloc_mark]; rfl
  · simp at hu
theorem RB.only {w w' : World} {A : Option Addr} {l : List UInt8} (h : RB w A l) (ho : Only w w') : RB w' A l := h.same (fun _ _ _ _ => ho.at_ _)
theorem bytesCut_u {w : World} {g o g2 o2 n c d : Nat} {l : List UInt8} (b : UInt8) (hn : n = l.length) (hl : l.length ≤ 4611686018427387904) (hlc : l.length ≤ c) (hr : RB w (some ⟨g, o, none⟩) l) (hs : RB w (some ⟨g2, o2, none⟩) [b]) :
    Calls Tryd.prog 49 #[.slice (some ⟨g, o, none⟩) n c, .slice (some ⟨g2, o2, none⟩) 1 d] w (CutU l g o w) := by
  refine (bytesCut_any b hn hl hlc hr hs).mono fun e w' hh => ?_
  obtain ⟨hc, ho⟩ := hh
  have hat : ∀ (i : Nat) u, l[i]? = some u → w'.cell? ⟨g, o + i, none⟩ = some (.int .u8 u.toNat) := fun i u hu => (hr.only ho).at_ i u hu
  rcases hc with ⟨_, rfl⟩ | ⟨x, y, hxy, _, rfl⟩
  · refine ⟨l, [], _, _, _, _, rfl, fun h => by have := List.length_pos_iff.2 h; simpa using this, Nat.le_refl _, RB.nil _ _, fun c0 t e => ?_, fun h => absurd rfl h, ho⟩
    have := hat 0 c0 (by rw [e]; rfl)
    rwa [Nat.add_zero] at this
  · have hxl : l.length = x.length + 1 + y.length := by rw [hxy, List.length_append, List.length_cons]; omega
    refine ⟨x, y, _, _, _, _, rfl, fun _ => by omega, by omega, ?_, fun c0 t e => ?_, fun h => ?_, ho⟩
    · split
      · have : y = [] := List.length_eq_zero_iff.1 (by omega)
        rw [this]; exact RB.nil _ _
      · have h1 := (hr.only ho).drop (x.length + 1)
        rw [hxy, show x ++ b :: y = (x ++ [b]) ++ y by simp, show x.length + 1 = (x ++ [b]).length by simp, List.drop_left] at h1
        simpa using h1
    · have := hat 0 c0 (by rw [hxy, e]; rfl)
      rwa [Nat.add_zero] at this
    · have := List.length_pos_iff.2 h
      rw [if_neg (by omega)]
      exact ⟨_, _, rfl⟩
set_option maxRecDepth 200000 in
set_option maxHeartbeats 1600000 in
theorem upcoming_any {K : Und} (hK : FillOK K) {base t p bb : Nat} {E : Nat → Addr} {gs : List Nat} {v : Value} {w : World} {S : List UInt8} (h : Tp K base E gs t p bb v w S) (hS : S ≠ []) (hg : 0 ∈ gs) :
    Calls Tryd.prog 44 #[.pointer (some ⟨t, 0, none⟩)] w fun e w' => (∃ n : Nat, n ≤ 1000 ∧ e = .returned (.int .i64 n)) ∧ Tp K base E gs t p bb v w' S ∧ Chg (Rd.S K p bb) w w' := by
  obtain ⟨hbt, hts, hT, hrest⟩ := h
  have hrs : Rs K base E gs p bb w S := hrest
  have hp1 := peek1_any hK hrs hS hg
  have t0 := hT.c0
  have H := Lib.hid (And.intro hbt (And.intro hts (And.intro hT hp1)))
  clear hbt hts hT hp1 hrest hrs hS
  go_enter Tryd.func44, Tryd.ntmps44
  go_wp2_with (go_at_call 45; refine H.out.2.2.2.mono ?_; rintro e w1 ⟨c, B, U, r, z, rfl, hR1, hBU, hC1⟩; refine Hid.out ?_)
  obtain ⟨B1, hB1⟩ : ∃ B1, B1 = c :: B := ⟨_, rfl⟩
  have hlen : 1 ≤ B1.length := by rw [hB1]; simp
  rw [← hB1] at hR1 hBU
  have hle := hR1.le
  have hlen2 : B1.length ≤ 4096 := by omega
  have hBne : ¬ B1.length = 0 := by omega
  have hT1 := H.out.2.2.1.same (hC1.block t H.out.2.2.1.lt H.out.2.1)
  have t1 := hT1.c0
  have H1 := Lib.hid (And.intro hR1 (And.intro hC1 (And.intro hT1 hBU)))
  have HT : ∀ w', Rd K base E gs p bb w' B1 U r z (-1) (-1) → Chg (Rd.S K p bb) w1 w' → Tp K base E gs t p bb v w' S := fun w' hr hc => ⟨H.out.1, H.out.2.1, H1.out.2.2.1.same (hc.block t H1.out.2.2.1.lt H.out.2.1), B1, U, r, z, -1, -1, hr, H1.out.2.2.2⟩
  have HTT := Lib.hid HT
  clear hR1 hC1 hT1 hBU hB1 t0 HT hle
  refine Lib.hid ?_
  go_wp2_with (first
    | (go_at_call 63; refine (buffered_any H1.out.1).mono ?_; rintro e w2 ⟨rfl, m2, rfl⟩)
    | (go_at_call 45; refine (peekN_any (H1.out.1.only ((Only.refl _).drewN m2)) B1.length hlen (Nat.le_refl _)).mono ?_; rintro e w3 ⟨rfl, hR3, hC3⟩; have H3 := Lib.hid (And.intro hR3 (((Only.refl w1).drewN m2).chg (Rd.S K p bb) |>.trans (hC3.sub (fun k _ e => .inl e)))); clear hR3 hC3))
  go_loopg [2, 4, 6] (B1.length) (fun gk u2 u4 _ wr => ∃ (n : Nat) (A : Option Addr) (c : Nat) (L : List UInt8), u2 = .int .i64 n ∧ n ≤ 1000 ∧ u4 = .slice A L.length c ∧ L.length = gk ∧ L.length ≤ c ∧ L.length ≤ 4096 ∧ Hid (RB wr A L ∧ (L ≠ [] → ∃ g o, A = some ⟨g, o, none⟩) ∧ Rd K base E gs p bb wr B1 U r z (-1) (-1) ∧ Chg (Rd.S K p bb) w1 wr))
  case atStart =>
    obtain ⟨Lr, hL, hLB⟩ := H3.out.1.row
    refine ⟨0, _, _, B1, rfl, by omega, rfl, rfl, ?_, hlen2, Lib.hid ⟨hL.rb r B1 hLB H3.out.1.le, fun _ => ⟨_, _, rfl⟩, H3.out.1, H3.out.2⟩⟩
    have := H3.out.1.le
    omega
  case round =>
    obtain ⟨n, A, c4, L, rfl, hn, rfl, hgk, hLc, hL4, hq⟩ := hrel
    by_cases hL0 : L = []
    · subst hL0
      clear hgk
      go_wp2
      go_ret
      exact ⟨⟨n, hn, rfl⟩, HTT.out _ hq.out.2.2.1 hq.out.2.2.2, H1.out.2.1.trans hq.out.2.2.2⟩
    · obtain ⟨g, o, rfl⟩ := hq.out.2.1 hL0
      have hlpos : 0 < L.length := List.length_pos_iff.2 hL0
      by_cases hn1 : n < 1000
      · have hb4 : Below wr.heap.size wr (wr.alloc (.cells #[.int .u8 10] 5 (1, 2))) := (Below.refl _ _).alloc (Nat.le_refl _) _
        have hcut := bytesCut_u (d := 1) (10 : UInt8) (n := L.length) rfl (by omega) hLc (hq.out.1.below hb4) (RB.byteM wr 10 5 (1, 2))
        have hcv : (convert 23 23 (.slice (some ⟨wr.heap.size, 0, none⟩) 1 1)).run Tryd.prog (wr.alloc (.cells #[.int .u8 10] 5)) = .ok (.slice (some ⟨wr.heap.size, 0, none⟩) 1 1) (wr.alloc (.cells #[.int .u8 10] 5 (1, 2))) := Lib.run_convert_bytes_const wr 23 5 #[.int .u8 10] 1 1 Tryd.underlying23 Tryd.underlying5
        have HC := Lib.hid hcut
        have HN := Lib.hid (And.intro hL0 (And.intro hgk hb4))
        clear hcut hb4 hL0 hgk
        go_wp2_with (go_at_call 49; refine HC.out.mono ?_; rintro e w5 ⟨L1, L2, c1, c2, A2, q, rfl, h2, h3, h4, h5, h6, h7⟩; refine Hid.out ?_)
        have HM := Lib.hid (show L2.length < gk by rw [← HN.out.2.1]; exact h2 HN.out.1)
        have HL := Lib.hid (show L2.length ≤ 4096 by have := h2 HN.out.1; omega)
        have HE := Lib.hid (show RB w5 A2 L2 ∧ (L2 ≠ [] → ∃ g o, A2 = some ⟨g, o, none⟩) ∧ Rd K base E gs p bb w5 B1 U r z (-1) (-1) ∧ Chg (Rd.S K p bb) w1 w5 from
          ⟨h4, h6, (hq.out.2.2.1.below HN.out.2.2 hq.out.2.2.1.S_lt).only h7, hq.out.2.2.2.trans (((Chg.refl _ _).alloc _).trans (h7.chg _))⟩)
        clear h2 h4 h6 h7 hcv
        refine Lib.hid ?_
        rcases L1 with _ | ⟨c0, l1⟩
        · clear h5
          go_wp2
          go_ret
          exact ⟨⟨n, hn, rfl⟩, HTT.out _ HE.out.2.2.1 HE.out.2.2.2, H1.out.2.1.trans HE.out.2.2.2⟩
        · have hc0 := h5 c0 l1 rfl
          clear h5
          generalize c0.toNat = m at hc0
          rcases l1 with _ | ⟨c', l1⟩
          · by_cases h13 : m = 13
            · subst h13
              go_wp2
              go_ret
              exact ⟨⟨n, hn, rfl⟩, HTT.out _ HE.out.2.2.1 HE.out.2.2.2, H1.out.2.1.trans HE.out.2.2.2⟩
            · have q13 : ((m : Int) == 13) = false := by rw [beq_eq_false_iff_ne]; omega
              by_cases h32 : m = 32
              · subst h32
                go_wp2
                go_roundg L2.length
                case measure => exact HM.out
                case rel => exact ⟨n, A2, c2, L2, rfl, hn, rfl, rfl, h3, HL.out, HE.out⟩
              · by_cases h9 : m = 9
                · subst h9
                  go_wp2
                  go_roundg L2.length
                  case measure => exact HM.out
                  case rel => exact ⟨n, A2, c2, L2, rfl, hn, rfl, rfl, h3, HL.out, HE.out⟩
                · have q32 : ((m : Int) == 32) = false := by rw [beq_eq_false_iff_ne]; omega
                  have q9 : ((m : Int) == 9) = false := by rw [beq_eq_false_iff_ne]; omega
                  go_wp2
                  go_roundg L2.length
                  case measure => exact HM.out
                  case rel => exact ⟨n + 1, A2, c2, L2, by go_num, by omega, rfl, rfl, h3, HL.out, HE.out⟩
          · obtain ⟨j, hj⟩ : ∃ j : Nat, j = (c0 :: c' :: l1).length := ⟨_, rfl⟩
            have hj1 : 2 ≤ j := by rw [hj]; simp
            have qj0 : ((j : Int) == 0) = false := by rw [beq_eq_false_iff_ne]; omega
            have qj1 : ((j : Int) == 1) = false := by rw [beq_eq_false_iff_ne]; omega
            rw [← hj]
            clear hj
            by_cases h32 : m = 32
            · subst h32
              go_wp2
              go_roundg L2.length
              case measure => exact HM.out
              case rel => exact ⟨n, A2, c2, L2, rfl, hn, rfl, rfl, h3, HL.out, HE.out⟩
            · by_cases h9 : m = 9
              · subst h9
                go_wp2
                go_roundg L2.length
                case measure => exact HM.out
                case rel => exact ⟨n, A2, c2, L2, rfl, hn, rfl, rfl, h3, HL.out, HE.out⟩
              · have q32 : ((m : Int) == 32) = false := by rw [beq_eq_false_iff_ne]; omega
                have q9 : ((m : Int) == 9) = false := by rw [beq_eq_false_iff_ne]; omega
                go_wp2
                go_roundg L2.length
                case measure => exact HM.out
                case rel => exact ⟨n + 1, A2, c2, L2, by go_num, by omega, rfl, rfl, h3, HL.out, HE.out⟩
      · clear hgk
        go_wp2
        go_ret
        exact ⟨⟨n, hn, rfl⟩, HTT.out _ hq.out.2.2.1 hq.out.2.2.2, H1.out.2.1.trans hq.out.2.2.2⟩
/-- What mustHaveFieldNameColon makes of a line. -/
def colonMsg : ByteArray := ⟨#[109, 97, 108, 102, 111, 114, 109, 101, 100, 32, 77, 73, 77, 69, 32, 104, 101, 97, 100, 101, 114, 58, 32, 109, 105, 115, 115, 105, 110, 103, 32, 99, 111, 108, 111, 110]⟩
def colonV (l : List UInt8) : Er := if 58 ∈ l then .nil else .proto colonMsg
theorem colonV_two (l : List UInt8) : colonV l = .nil ∨ ∃ s, colonV l = .proto s := by
  unfold colonV
  split
  · exact .inl rfl
  · exact .inr ⟨_, rfl⟩
set_option maxRecDepth 200000 in
theorem mustC_any (E : Nat → Addr) {A : Option Addr} {c : Nat} {l : List UInt8} {w : World} (hne : l ≠ []) (hr : RB w A l) :
    Calls Tryd.prog 48 #[.slice A l.length c] w fun e w' => e = .returned ((colonV l).val E) ∧ Only w w' := by
  obtain ⟨g, o, rfl, _⟩ := id hr hne
  have hi := indexByte_any (c := c) hr 58
  have hge := Lib.indexByte_ge l 58
  have hno := @indexByte_none l 58
  generalize Lib.indexByte l 58 = i at hi hge hno
  have HI := Lib.hid hi
  clear hi hr
  by_cases h : 58 ∈ l
  · have h0 : ¬ i < 0 := by
      intro h1
      have : i = -1 := by omega
      exact hno.1 this h
    have hE : colonV l = .nil := if_pos h
    rw [hE]
    clear hge hno h hE
    go_enter Tryd.func48, Tryd.ntmps48
    go_wp2_with (go_at_call 74; refine HI.out.mono ?_; rintro e w' ⟨rfl, rfl⟩)
    go_ret
    exact ⟨rfl, Only.refl _⟩
  · have h0 : i = -1 := hno.2 h
    have hE : colonV l = .proto colonMsg := if_neg h
    rw [hE]
    subst h0
    clear hge hno h hE
    go_enter Tryd.func48, Tryd.ntmps48
    go_wp2_with (go_at_call 74; refine HI.out.mono ?_; rintro e w' ⟨rfl, rfl⟩)
    go_ret
    exact ⟨rfl, Only.refl _⟩
theorem mustC_call (a : Array Value) (w : World) : (callFunc 48 a).run Tryd.prog w = .ok (.enter 48 a) w := by
  simp [callFunc, go_sem, Tryd.func48, Tryd.f48]
end Go.Proofs.YtilhgjcjofobeaaDoor
