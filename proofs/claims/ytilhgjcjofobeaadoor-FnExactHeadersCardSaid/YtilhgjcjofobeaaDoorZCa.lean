/- Maps of slices of strings, key by key: which value lies at each key; no key that is there holds nil; the range over such a map. | canonicalMIMEHeaderKey, with what its row holds behind the call. | What a write into a line that has been read leaves of the reader. | The header that readMIMEHeader makes: a map whose values lie in a row of their own or, one each, in a row that all share. | What readMIMEHeader says of a stream, for certain. No walk. | What readMIMEHeader says of the text of fields. No walk. -/
import Derived.Test.YtilhgjcjofobeaaDoorZC1
import Derived.Maps.OwnSet
import Derived.StringKeys
import Derived.Maps.RangeWalk
import Derived.Test.YtilhgjcjofobeaaDoorZC6
import Derived.Test.YtilhgjcjofobeaaDoorZRdL
import Derived.ArgAppend
import Derived.Test.YtilhgjcjofobeaaDoorZC5
import Derived.Test.YtilhgjcjofobeaaDoorZC9
namespace Go.Proofs.YtilhgjcjofobeaaDoor
open Go.RowKit Go.Maps Go.ChangeMaps Go.MapKept

/-- An element reads as itself. -/
def rawR (v : Value) : Option (DataW Value × List MemPlace) := some (.held v, [])
/-- Block b is a map of at most n entries that holds val k at each key k. -/
def MapIs (w : World) (b n : Nat) (val : List UInt8 → Value) : Prop :=
  ∃ D : DataW Value, w.ownsMap Tryd.prog 9 rawR b n D ∧ (∀ k, D.atKey (.string k) (.held (.slice none 0 0)) = .held (val k)) ∧ ∀ k, has D (.string k) = true → val k ≠ .slice none 0 0
def updF {α : Type} (f : List UInt8 → α) (k : List UInt8) (v : α) : List UInt8 → α := fun k' => if k' = k then v else f k'
theorem updF_same {α : Type} (f : List UInt8 → α) (k : List UInt8) (v : α) : updF f k v k = v := if_pos rfl
theorem updF_other {α : Type} (f : List UInt8 → α) {k k' : List UInt8} (v : α) (h : k' ≠ k) : updF f k v k' = f k' := if_neg h
theorem Tryd.mapLaw : Keyed Tryd.prog 9 := string_keyed Tryd.underlying9
theorem Tryd.zeroSs (w : World) : (zeroValue 34).run Tryd.prog w = .ok (.slice none 0 0) w := by kernel_rfl
theorem keyMk {k : List UInt8} (h : k.length ≤ 9223372036854775807) : keyOf Tryd.prog 9 (.string ⟨k.toArray⟩) = some (.string k) := by
  have := WideMaps.keyOf_string_mk (P := Tryd.prog) Tryd.underlying9 (s := ⟨k.toArray⟩) (by rw [mk_size]; unfold maxLen; omega)
  simpa using this
theorem MapIs.made (w : World) : MapIs (w.alloc (.map #[] 0)) w.heap.size 0 (fun _ => .slice none 0 0) :=
  ⟨_, World.ownsMap_made w _ _ _, fun _ => rfl, fun k h => by cases h⟩
theorem MapIs.lt {w : World} {b n : Nat} {val : List UInt8 → Value} (h : MapIs w b n val) : b < w.heap.size := by
  obtain ⟨D, h, _⟩ := h
  exact h.lt
theorem MapIs.of {w w' : World} {b n : Nat} {val : List UInt8 → Value} (h : MapIs w b n val) (hb : w'.heap[b]? = w.heap[b]?) : MapIs w' b n val := by
  obtain ⟨D, ⟨es, clock, h1, h2⟩, h3⟩ := h
  exact ⟨D, ⟨es, clock, hb.trans h1, h2⟩, h3⟩
set_option maxRecDepth 200000 in
theorem MapIs.look {w : World} {b n : Nat} {val : List UInt8 → Value} (h : MapIs w b n val) {k : List UInt8} (hk : k.length ≤ 9223372036854775807) :
    (Instr.lookup 45 (.map (some b)) (.string ⟨k.toArray⟩) false).run Tryd.prog w = .ok (val k) w := by
  obtain ⟨D, h, hv, _⟩ := h
  obtain ⟨v, ps, h1, h2⟩ := h.lookup Tryd.mapLaw Tryd.underlying45 (Tryd.zeroSs w) (zd := .held (.slice none 0 0)) (zp := []) rfl (keyMk hk)
  rw [hv k] at h2
  have h3 : v = val k := by
    have h4 : (some (DataW.held v, ([] : List MemPlace))) = some (.held (val k), ps) := h2
    injection h4 with h4
    injection h4 with h4 _
    injection h4
  rw [h1, h3]
set_option maxRecDepth 200000 in
theorem wpList_upd {ops : Array Oper} {Q : Exit → Act → World → Prop} {a : Act} {w : World} {rest : List Oper} {o : Oper} (hg : o.guard = none) (m x v : Operand) (hop : o.op = Op.mapUpdate 45 m x v)
    (b n : Nat) (val : List UInt8 → Value) (hm : a.eval m = .map (some b)) (h : MapIs w b n val) (hn : n < 9223372036854775807) (k : List UInt8) (hx : a.eval x = .string ⟨k.toArray⟩) (hk : k.length ≤ 9223372036854775807) (u : Value) (hv : a.eval v = u) (hu : u ≠ .slice none 0 0)
    (hK : ∀ w', MapIs w' b (n + 1) (updF val k u) → w.grownBy w' (some b) → wpList Tryd.prog ops Q rest (a.put o.dst undef) w') : wpList Tryd.prog ops Q (o :: rest) a w := by
  obtain ⟨D, h, hv2, hv3⟩ := h
  refine wpList_mapUpdate_own w hg m x v 45 hop 9 34 Tryd.mapLaw Tryd.underlying45 rawR b n D hm h (by unfold maxLen; omega) _ u (.string k) hx hv (keyMk hk) (.held u) [] rfl (fun w' h1 h2 => hK w' ⟨_, h1, fun k' => ?_, fun k' hh => ?_⟩ h2)
  · by_cases e : k' = k
    · subst e
      rw [updF_same]
      exact atKey_put_same h.isMap (by trivial) _ _
    · rw [updF_other _ _ e, ← hv2 k']
      exact atKey_put_other (fun e2 => e (by injection e2)) _ _
  · by_cases e : k' = k
    · subst e
      rw [updF_same]
      exact hu
    · rw [updF_other _ _ e]
      rw [has_put_other (fun e2 => e (by injection e2))] at hh
      exact hv3 k' hh
theorem keyInv' {P : Program} {t : TypeId} (ht : P.underlying t = some .string) {key : Value} {kl : Lit} (h : keyOf P t key = some kl) : ∃ l : List UInt8, key = .string ⟨l.toArray⟩ ∧ kl = .string l ∧ l.length ≤ 9223372036854775807 := by
  replace h : mapKey P t key = some kl := by rw [← h]; simp only [keyOf, ht]
  unfold mapKey at h
  rw [ht] at h
  cases key
  case string s =>
    have h3 : (if s.size ≤ maxLen then some (Lit.string s.data.toList) else none) = some kl := h
    split at h3
    · rename_i h1
      injection h3 with h3
      refine ⟨s.data.toList, by simp, h3.symm, ?_⟩
      unfold maxLen at h1
      have : s.data.toList.length = s.size := Array.length_toList
      omega
    · cases h3
  all_goals exact absurd h (by intro e; cases e)
theorem keyInv {key : Value} {kl : Lit} (h : keyOf Tryd.prog 9 key = some kl) : ∃ l : List UInt8, key = .string ⟨l.toArray⟩ ∧ kl = .string l ∧ l.length ≤ 9223372036854775807 := keyInv' Tryd.underlying9 h
/-- A range over such a map: left says which keys are to come, cnt how many. -/
def MapR (w : World) (b r n : Nat) (val : List UInt8 → Value) (left : List UInt8 → Bool) (cnt : Nat) : Prop :=
  ∃ (D : DataW Value) (L : Lit → Bool), w.ranges Tryd.prog 9 rawR b r n D L cnt ∧ (∀ k, L (.string k) = left k) ∧ ∀ k, D.atKey (.string k) (.held (.slice none 0 0)) = .held (val k)
theorem MapR.of {w w' : World} {b r n cnt : Nat} {val : List UInt8 → Value} {left : List UInt8 → Bool} (h : MapR w b r n val left cnt) (hb : w'.heap[b]? = w.heap[b]?) (hr : w'.heap[r]? = w.heap[r]?) : MapR w' b r n val left cnt := by
  obtain ⟨D, L, ⟨es, clock, since, seen, c0, h1, h2, h3, h4, h5, h6⟩, h7⟩ := h
  exact ⟨D, L, ⟨es, clock, since, seen, c0, hb.trans h1, h2, h3, h4, hr.trans h5, h6⟩, h7⟩
theorem MapR.left_eq {w : World} {b r n cnt : Nat} {val : List UInt8 → Value} {left : List UInt8 → Bool} (h : MapR w b r n val left cnt) : w.rangeLeft b r = cnt := by
  obtain ⟨D, L, h, _⟩ := h
  exact h.left_eq
theorem MapR.ne {w : World} {b r n cnt : Nat} {val : List UInt8 → Value} {left : List UInt8 → Bool} (h : MapR w b r n val left cnt) : r ≠ b := by
  obtain ⟨D, L, h, _⟩ := h
  exact h.ne
theorem MapR.lt {w : World} {b r n cnt : Nat} {val : List UInt8 → Value} {left : List UInt8 → Bool} (h : MapR w b r n val left cnt) : r < w.heap.size := by
  obtain ⟨D, L, h, _⟩ := h
  exact h.lt
set_option maxRecDepth 200000 in
theorem wpList_rangeM {ops : Array Oper} {Q : Exit → Act → World → Prop} {a : Act} {w : World} {rest : List Oper} {o : Oper} (hg : o.guard = none) (m : Operand) (hop : o.op = Op.range 45 m)
    (b n : Nat) (val : List UInt8 → Value) (hm : a.eval m = .map (some b)) (h : MapIs w b n val)
    (hK : ∀ w' left cnt, MapR w' b w.heap.size n val left cnt → (∀ k, left k = true ↔ val k ≠ .slice none 0 0) → cnt ≤ n → w.grownBy w' none → w'.heap.size = w.heap.size + 1 → wpList Tryd.prog ops Q rest (a.put o.dst (.pointer (some ⟨w.heap.size, 0, none⟩))) w') : wpList Tryd.prog ops Q (o :: rest) a w := by
  obtain ⟨D, h, hv2, hv3⟩ := h
  refine wpList_range_own w hg m 45 hop 9 34 Tryd.mapLaw Tryd.underlying45 rawR b n D hm h (fun w' h1 h2 h3 => hK w' (fun k => has D (.string k)) _ ⟨D, _, h1, fun _ => rfl, hv2⟩ (fun k => ⟨hv3 k, fun hne => ?_⟩) h.size_le h2 h3)
  rcases hh : has D (.string k) with _ | _
  · have h1 := atKey_of_not_has hh (.held (.slice none 0 0))
    rw [hv2 k] at h1
    injection h1 with h1
    exact absurd h1 hne
  · rfl
set_option maxRecDepth 200000 in
theorem wpList_nextM {ops : Array Oper} {Q : Exit → Act → World → Prop} {a : Act} {w : World} {rest : List Oper} {o : Oper} (hg : o.guard = none) (it : Operand) (hop : o.op = Op.next it false)
    (b r n : Nat) (val : List UInt8 → Value) (left : List UInt8 → Bool) (cnt : Nat) (hit : a.eval it = .pointer (some ⟨r, 0, none⟩)) (h : MapR w b r n val left cnt)
    (hDone : (∀ k, left k = false) → wpList Tryd.prog ops Q rest (a.put o.dst (.tuple #[.bool false])) w)
    (hMore : ∀ (k : List UInt8) (w' : World) (cnt' : Nat), left k = true → k.length ≤ 9223372036854775807 → MapR w' b r n val (fun z => left z && !(z == k)) cnt' → cnt' < cnt → w.grownBy w' (some r) → w'.heap.size = w.heap.size →
      (Instr.entry (.pointer (some ⟨r, 0, none⟩))).run Tryd.prog w' = .ok (.tuple #[.string ⟨k.toArray⟩, val k]) w' → wpList Tryd.prog ops Q rest (a.put o.dst (.tuple #[.bool true, .string ⟨k.toArray⟩, val k])) w') : wpList Tryd.prog ops Q (o :: rest) a w := by
  obtain ⟨D, L, h, hL, hv2⟩ := h
  refine wpList_next_ranges w hg it hop 9 Tryd.mapLaw rawR (fun k : List UInt8 => Value.string ⟨k.toArray⟩) (fun v : Value => v) (fun key kl hk => ?_) (fun v y _ => ⟨v, rfl⟩) b r n D L cnt hit h (fun _ hl => hDone fun k => by rw [← hL k]; exact hl _) (fun x c kl y w' cnt' hkey hlk hv hat hrg hlt hgr hsz hen => ?_)
  · obtain ⟨l, rfl, _⟩ := keyInv hk
    exact ⟨l, rfl⟩
  · have hx : x.length ≤ 9223372036854775807 ∧ kl = .string x := by
      obtain ⟨l, h1, h2, h3⟩ := keyInv (key := .string ⟨x.toArray⟩) hkey
      simp at h1
      subst h1
      exact ⟨h3, h2⟩
    obtain ⟨hx, rfl⟩ := hx
    have hc : c = val x := by
      have h1 := hat (.held (.slice none 0 0))
      rw [hv2 x] at h1
      have h2 : y = (.held c, []) := by
        have h3 : some (DataW.held c, ([] : List MemPlace)) = some y := hv
        injection h3 with h3
        exact h3.symm
      rw [h2] at h1
      injection h1 with h1
      exact h1.symm
    subst hc
    refine hMore x w' cnt' (by rw [← hL x]; exact hlk) hx ⟨D, _, hrg, fun k => ?_, hv2⟩ hlt hgr hsz hen
    rw [hL k]
    by_cases e : k = x
    · subst e
      rw [WideAt.sameKey_self (by trivial)]
      simp
    · rw [sameKey_ne (fun e2 => e (by injection e2))]
      simp [e]
end Go.Proofs.YtilhgjcjofobeaaDoor
namespace Go.Proofs.YtilhgjcjofobeaaDoor
open Go.RowKit

set_option maxHeartbeats 400000 in
theorem canonKeyR_any (A : Option Addr) (l : List UInt8) (c g o : Nat) (hA : l ≠ [] → A = some ⟨g, o, none⟩) (hlc : l.length ≤ c) (hc : c ≤ 9223372036854775807) (w : World) (hr : Row w g o l.length (fun i => (l.getD i 0).toNat)) :
    Calls Tryd.prog 50 #[.slice A l.length c] w fun e w' => e = .returned (.tuple #[.string ⟨(canonOf l).toArray⟩, .bool (looseKey l)]) ∧ Wrote g o (o + l.length) w w' ∧ ∃ m : List UInt8, m.length = l.length ∧ Row w' g o l.length (fun i => (m.getD i 0).toNat) := by
  cases l with
  | nil =>
    go_enter Tryd.func50, Tryd.ntmps50
    go_wp2
    go_ret2
    exact ⟨rfl, Wrote.refl _ _ _ _, [], rfl, hr⟩
  | cons b t =>
    obtain rfl := hA (by simp)
    clear hA
    obtain ⟨l, hl⟩ : ∃ l, l = b :: t := ⟨_, rfl⟩
    rw [← hl] at hlc hr ⊢
    have hpos : 0 < l.length := by rw [hl]; simp
    have HR := Lib.hid hr
    clear hr hl b t
    go_enter Tryd.func50, Tryd.ntmps50
    have hcv0 := run_toString (c := c) rfl HR.out
    have hl0 : ((l.length : Int) == 0) = false := by rw [beq_eq_false_iff_ne]; omega
    go_wp2
    go_loop [4, 15] (fun s i => ∃ k : Nat, k ≤ l.length ∧ i = .int .i64 k ∧ s = .bool (spaced (l.take k)) ∧ (l.take k).all loose = true) (fun _ i => l.length - (intOf i).toNat)
    case atStart => exact ⟨0, Nat.zero_le _, rfl, rfl, rfl⟩
    case round =>
      obtain ⟨k, hk, rfl, rfl, hno⟩ := hrel
      have HN := Lib.hid hno
      clear hno
      by_cases hlt : k < l.length
      · have hcell := HR.out.cell hlt
        rw [List.getD_eq_getElem?_getD, List.getElem?_eq_getElem hlt] at hcell
        rcases hb : fieldB l[k].toNat with _ | _
        · have HB := Lib.hid hb
          clear hb
          rcases h32 : ((l[k].toNat : Int) == 32) with _ | _
          rotate_left
          · go_wp2_with (go_at_call 76; refine (validField_any l[k].toNat (by omega) (byte_le _) _).mono ?_; rw [HB.out]; rintro e w' ⟨rfl, rfl⟩)
            go_round
            case rel => exact ⟨k + 1, by omega, by go_num, by unfold spaced; rw [any_take_succ _ l k hlt, h32]; simp, by rw [all_take_succ _ l k hlt, HN.out, loose, ← byte32, h32]; simp⟩
            case measure => simp [intOf]; omega
          · go_wp2_with (go_at_call 76; refine (validField_any l[k].toNat (by omega) (byte_le _) _).mono ?_; rw [HB.out]; rintro e w' ⟨rfl, rfl⟩)
            go_ret2
            exact ⟨ret_two (canonOf_bad (keyB_no k hlt HB.out)).symm (looseKey_no hlt (by rw [loose, ← byte32, HB.out, h32]; rfl)).symm, Wrote.refl _ _ _ _, l, rfl, HR.out⟩
        · have HB := Lib.hid hb
          have h32 := fieldB_iff_32 l[k] hb
          clear hb
          go_wp2_with (go_at_call 76; refine (validField_any l[k].toNat (by omega) (byte_le _) _).mono ?_; rw [HB.out]; rintro e w' ⟨rfl, rfl⟩)
          go_round
          case rel => exact ⟨k + 1, by omega, by go_num, by unfold spaced; rw [any_take_succ _ l k hlt, h32]; simp, by rw [all_take_succ _ l k hlt, HN.out, loose, HB.out]; rfl⟩
          case measure => simp [intOf]; omega
      · obtain rfl : k = l.length := by omega
        have HN2 : Hid (l.all loose = true) := by have := HN.out; rwa [List.take_length] at this
        rw [List.take_length]
        clear HN hlt hk
        rcases hsp : spaced l with _ | _
        · have HK : Hid (keyB l = true) := keyB_of_loose HN2.out hsp
          go_wp2
          clear hcv0 hsp
          go_loopw [7, 31] (fun u i wr => ∃ k : Nat, k ≤ l.length ∧ i = .int .i64 k ∧ u = .bool (upAt l k) ∧ Row wr g o l.length (mixed l k) ∧ Wrote g o (o + l.length) w wr) (fun _ i _ => l.length - (intOf i).toNat)
          case atStart => exact ⟨0, Nat.zero_le _, rfl, by rw [upAt_zero], HR.out.same (fun i _ => mixed_zero l i), Wrote.refl _ _ _ _⟩
          case round =>
            clear HR
            obtain ⟨k, hk, rfl, rfl, hr, hbw⟩ := hrel
            have HR := Lib.hid hr
            clear hr
            by_cases hlt : k < l.length
            · have hcell := HR.out.cell hlt
              rw [mixed_at l k hlt] at hcell
              have hfree := HR.out.free hlt
              go_wp2
              all_goals
                go_roundw
                case rel =>
                  exact ⟨k + 1, by omega, by go_num, by refine congrArg Value.bool ?_; first | (rw [upAt_succ l k hlt]; done) | (rw [upAt_succ l k hlt, Bool.eq_iff_iff]; simp; omega), canon_set HR.out hlt (by unfold fixN lowB capB; simp [*] <;> omega), hbw.setCell (by omega) (by omega) _⟩
                case measure => simp [intOf]; omega
            · obtain rfl : k = l.length := by omega
              have hcv := run_toString (w := wr) (g := g) (o := o) (c := c) (l := canonL l) (canonL_length l).symm (HR.out.same fun i hi => (mixed_end l i hi).symm)
              go_wp2
              go_ret2
              exact ⟨ret_two (canonOf_yes HK.out).symm (looseKey_yes hpos HN2.out).symm, hbw, canonL l, canonL_length l, HR.out.same fun i hi => (mixed_end l i hi).symm⟩
        · have HK : Hid (keyB l = false) := keyB_spaced hsp
          go_wp2
          go_ret2
          exact ⟨ret_two (canonOf_bad HK.out).symm (looseKey_yes hpos HN2.out).symm, Wrote.refl _ _ _ _, l, rfl, HR.out⟩

end Go.Proofs.YtilhgjcjofobeaaDoor
namespace Go.Proofs.YtilhgjcjofobeaaDoor
open Go.RowKit

/-- A row with other bytes from lo on. -/
def mixL (n lo : Nat) (m base : List UInt8) : List UInt8 := (List.range n).map fun i => if lo ≤ i ∧ i < lo + m.length then m.getD (i - lo) 0 else base.getD i 0
theorem mixL_length (n lo : Nat) (m base : List UInt8) : (mixL n lo m base).length = n := by simp [mixL]
theorem mixL_get? (n lo : Nat) (m base : List UInt8) (i : Nat) (h : i < n) : (mixL n lo m base)[i]? = some (if lo ≤ i ∧ i < lo + m.length then m.getD (i - lo) 0 else base.getD i 0) := by
  unfold mixL
  rw [List.getElem?_map, List.getElem?_range h]
  rfl
theorem mixL_get (n lo : Nat) (m base : List UInt8) (i : Nat) (h : i < n) : (mixL n lo m base).getD i 0 = if lo ≤ i ∧ i < lo + m.length then m.getD (i - lo) 0 else base.getD i 0 := by
  rw [List.getD_eq_getElem?_getD, mixL_get? n lo m base i h]
  rfl
theorem cells_of_cell {w : World} {g i : Nat} {v : Value} (h : w.cell? ⟨g, i, none⟩ = some v) : ∃ cs e fr, w.heap[g]? = some (.cells cs e fr) := by
  rcases hg : w.heap[g]? with _ | o
  · have := World.block_lt_of_cell? _ _ h
    rw [Array.getElem?_eq_none_iff] at hg
    simp at this
    omega
  · cases o with
    | cells cs e fr => exact ⟨cs, e, fr, rfl⟩
    | _ => simp [World.cell?, hg] at h
theorem Wrote.frozen {g lo hi : Nat} {w w' : World} (h : Wrote g lo hi w w') {cs : Array Value} {e : TypeId} {fr : Nat × Nat} (hc : w.heap[g]? = some (.cells cs e fr)) (i : Nat) : w'.frozen? ⟨g, i, none⟩ = w.frozen? ⟨g, i, none⟩ := by
  obtain ⟨cs', h1, _⟩ := h.row cs e fr hc
  unfold World.frozen?
  simp only [h1, hc]
theorem RowB.wrote {w w' : World} {g N lo : Nat} {L m : List UInt8} (h : RowB w g N L) (hN : 0 < N) (hw : Wrote g lo (lo + m.length) w w') (hr : Row w' g lo m.length (fun i => (m.getD i 0).toNat)) : RowB w' g N (mixL N lo m L) := by
  obtain ⟨cs, e, fr, hc⟩ := cells_of_cell (h.cell hN)
  refine ⟨mixL_length _ _ _ _, fun i hi => ?_⟩
  rw [Nat.zero_add]
  constructor
  · show w'.cell? ⟨g, i, none⟩ = some (.int .u8 ((mixL N lo m L).getD i 0).toNat)
    rw [mixL_get _ _ _ _ _ hi]
    split
    · rename_i h1
      have := (hr (i - lo) (by omega)).1
      rwa [show lo + (i - lo) = i by omega] at this
    · rename_i h1
      rw [hw.cell i (by omega)]
      exact h.cell hi
  · rw [hw.frozen hc]
    exact h.free hi
theorem Rd.wrote {K : Und} {base p bb : Nat} {E : Nat → Addr} {gs : List Nat} {w w' : World} {B U : List UInt8} {r : Nat} {z : Bool} {lb lr : Int} (h : Rd K base E gs p bb w B U r z lb lr) {lo : Nat} {m : List UInt8} (hlo : lo + m.length ≤ r)
    (hw : Wrote bb lo (lo + m.length) w w') (hr : Row w' bb lo m.length (fun i => (m.getD i 0).toNat)) : Rd K base E gs p bb w' B U r z lb lr := by
  have hc : Chg (Rd.S K p bb) w w' := ⟨hw.os, hw.tape, hw.output, Nat.le_of_eq hw.size.symm, fun k _ hn => hw.block k (fun e => hn (.inr (.inl e)))⟩
  obtain ⟨L, hL, hLB⟩ := h.row
  refine h.new hc (h.c.same (hw.block p h.lay.nb)) ⟨mixL 4096 lo m L, hL.wrote (by omega) hw hr, ?_⟩ h.le (K.same h.u fun k hk => hw.block k (fun e => h.lay.nbb (e ▸ hk))) h.end_
  have hle := h.le
  apply List.ext_getElem?
  intro j
  rw [List.getElem?_take]
  split
  · rename_i hj
    have hB : ((L.drop r).take B.length)[j]? = B[j]? := by rw [hLB]
    rw [List.getElem?_take, if_pos hj] at hB
    rw [← hB, List.getElem?_drop, List.getElem?_drop, mixL_get? _ _ _ _ _ (by omega), if_neg (by omega), List.getD_eq_getElem?_getD]
    have hl : r + j < L.length := by rw [hL.len]; omega
    rw [List.getElem?_eq_getElem hl]
    rfl
  · rename_i hj
    rw [List.getElem?_eq_none (by omega)]
theorem OB.wrote {w w' : World} {base c n g lo : Nat} {A : Option Addr} {l m : List UInt8} (h : OB w base (.slice A n c) l) (hg : (Value.slice A n c).ownBlock = some g) (hw : Wrote g lo (lo + m.length) w w') (hr : Row w' g lo m.length (fun i => (m.getD i 0).toNat)) : ∃ l', OB w' base (.slice A n c) l' := by
  obtain ⟨h1, h2⟩ := h
  rcases h2 with ⟨h2, _⟩ | ⟨g', cap, cur, h2, hb, hB, hn, hm, hs, ht⟩
  · rw [h2] at hg; cases hg
  · rw [h2] at hg ⊢
    injection hg with hg
    subst hg
    obtain ⟨cur', hc', hs'⟩ := hw.row _ _ _ hB
    refine ⟨mixL l.length lo m l, ?_⟩
    unfold OB
    rw [mixL_length]
    refine ⟨by simp [bts, mixL_length], .inr ⟨g', cap, cur', rfl, hb, hc', hn, hm, by rw [hs', hs], ?_⟩⟩
    have hblk : Blk w g' cur 5 := hB
    have hblk' : Blk w' g' cur' 5 := hc'
    apply List.ext_getElem?
    intro i
    rw [Nat.mul_one, List.getElem?_take]
    split
    · rename_i hi
      have hci : w'.cell? ⟨g', i, none⟩ = cur'[i]? := hblk'.cell i
      have hco : w.cell? ⟨g', i, none⟩ = cur[i]? := hblk.cell i
      have hold : cur[i]? = some (.int .u8 (l.getD i 0).toNat) := by
        have := congrArg (fun x => x[i]?) ht
        simp only [Nat.mul_one] at this
        rw [List.getElem?_take, if_pos hi] at this
        rw [← Array.getElem?_toList, this]
        simp [bts, List.getElem?_eq_getElem hi, List.getD_eq_getElem?_getD]
      rw [Array.getElem?_toList, ← hci]
      have hx : (bts (mixL l.length lo m l))[i]? = some (.int .u8 ((mixL l.length lo m l).getD i 0).toNat) := by
        simp [bts, mixL_get? _ lo m l i hi, List.getD_eq_getElem?_getD]
      rw [hx, mixL_get _ _ _ _ _ hi]
      split
      · rename_i h3
        have := (hr (i - lo) (by omega)).1
        rwa [show lo + (i - lo) = i by omega] at this
      · rename_i h3
        rw [hw.cell i (by omega), hco, hold]
    · rename_i hi
      rw [List.getElem?_eq_none (by simp [bts, mixL_length]; omega)]
/-- A line's bytes may be written. -/
theorem Loc.free {K : Und} {base t p bb n : Nat} {E : Nat → Addr} {gs : List Nat} {v v' : Value} {w w' : World} {R : List UInt8} {a : Addr} (h : Loc K base E gs p bb v v' w w' R (some a) n) (hT : Tb K base E gs t p bb v' w' R) : ∀ i, i < n → w'.frozen? ⟨a.block, a.off + i, none⟩ = false := by
  intro i hi
  obtain ⟨B, U, r, z, lb, lr, hR, _, ha⟩ := h
  rcases (ha a rfl).2 with h | h | h
  · obtain ⟨L, hL, _⟩ := hR.row
    have hle := hR.le
    have := h.2 (by omega)
    rw [h.1]
    exact hL.free (by omega)
  · exact h.2.2 _
  · obtain ⟨acc, ho⟩ := hT.own
    obtain ⟨A, c, rfl, _⟩ := ho.form
    rcases A with _ | a'
    · cases h
    · injection h with h
      rw [← h]
      exact ho.free a' rfl _
/-- Behind a write into a line that has been read. -/
theorem Tb.wrote {K : Und} {base t p bb n : Nat} {E : Nat → Addr} {gs : List Nat} {v v' : Value} {w w' w2 : World} {R R0 m : List UInt8} {a : Addr} (hL : Loc K base E gs p bb v v' w w' R (some a) n) (hT0 : Tb K base E gs t p bb v w R0) (hT : Tb K base E gs t p bb v' w' R) (hm : m.length ≤ n) (hm0 : 0 < m.length)
    (hw : Wrote a.block a.off (a.off + m.length) w' w2) (hr : Row w2 a.block a.off m.length (fun i => (m.getD i 0).toNat)) : Tb K base E gs t p bb v' w2 R ∧ (SC K t p bb v' a.block ∨ w.heap.size ≤ a.block) := by
  obtain ⟨B, U, r, z, lb, lr, hR, hBU, ha⟩ := hL
  obtain ⟨hbt, hts, hTC, hrs⟩ := hT.tp
  have hlay := hR.lay
  rcases (ha a rfl).2 with h | h | h
  · obtain ⟨h1, h2⟩ := h
    have h2 := h2 (by omega)
    obtain ⟨ab, ao, asp⟩ := a
    simp only at h1 h2 hw hr
    subst h1
    refine ⟨⟨⟨hbt, hts, hTC.same (hw.block t (fun e => hts (.inr (.inl e)))), B, U, r, z, lb, lr, hR.wrote (by omega) hw hr, hBU⟩, ?_, hT.out⟩, .inl (.inl (.inr (.inl rfl)))⟩
    obtain ⟨acc, ho⟩ := hT.own
    exact ⟨acc, ho.of_blocks fun k hk _ => hw.block k (fun e => (hT.out k hk).1 (.inr (.inl e)))⟩
  · obtain ⟨h1, rfl, _⟩ := h
    have hlt : ∀ k, SC K t p bb v' k → k < w.heap.size := fun k hk => by
      rcases hk with hk | hk | hk
      · exact Rs.S_lt hT0.tp.2.2.2 k hk
      · rw [hk]; exact hT0.tp.2.2.1.lt
      · obtain ⟨acc, ho⟩ := hT0.own
        exact (ho.lt k hk).2
    have hN : ∀ k, SC K t p bb v' k → w2.heap[k]? = w'.heap[k]? := fun k hk => hw.block k (fun e => by have := hlt k hk; omega)
    refine ⟨⟨⟨hbt, hts, hTC.same (hN t (.inr (.inl rfl))), Rs.blocks hrs (fun k hk => hN k (.inl hk)) (hw.below (Nat.le_trans hT0.tp.size h1))⟩, ?_, hT.out⟩, .inr h1⟩
    obtain ⟨acc, ho⟩ := hT.own
    exact ⟨acc, ho.of_blocks fun k hk _ => hN k (.inr (.inr hk))⟩
  · obtain ⟨acc, ho⟩ := hT.own
    have hout := hT.out _ h
    have hb := (ho.lt _ h).1
    obtain ⟨A, c, hv, _⟩ := ho.form
    refine ⟨⟨⟨hbt, hts, hTC.same (hw.block t (fun e => hout.2 e.symm)), Rs.blocks hrs (fun k hk => hw.block k (fun e => hout.1 (e ▸ hk))) (hw.below hb)⟩, ?_, hT.out⟩, .inl (.inr (.inr h))⟩
    rw [hv] at ho h ⊢
    exact ho.wrote h hw hr
end Go.Proofs.YtilhgjcjofobeaaDoor
namespace Go.Proofs.YtilhgjcjofobeaaDoor
open Go.RowKit Go.Maps

abbrev HdrF := List UInt8 → List (List UInt8)
/-- A key's values: a row of the call's own, or one cell of the shared row sb, ahead of pos. -/
def Ent (w : World) (base sb pos : Nat) (v : Value) (l : List (List UInt8)) : Prop :=
  (OS w base v l ∧ v.ownBlock ≠ some sb) ∨ ∃ (j : Nat) (s : List UInt8), v = .slice (some ⟨sb, j, none⟩) 1 1 ∧ l = [s] ∧ j < pos ∧ base ≤ sb ∧ w.cell? ⟨sb, j, none⟩ = some (.string ⟨s.toArray⟩)
/-- Block b is a map whose values read as f. -/
structure HdrM (w : World) (base b sb n pos : Nat) (val : List UInt8 → Value) (f : HdrF) : Prop where
  map : MapIs w b n val
  ge : base ≤ b
  sne : sb ≠ b
  slt : sb < w.heap.size
  each : ∀ k, Ent w base sb pos (val k) (f k)
  apart : ∀ k k' g, g ≠ sb → (val k).ownBlock = some g → (val k').ownBlock = some g → k = k'
  small : ∀ k, (f k).length ≤ n
  full : ∀ k, val k ≠ .slice none 0 0 → f k ≠ []
/-- The header's blocks. -/
def HB (b : Nat) (val : List UInt8 → Value) (k : Nat) : Prop := k = b ∨ ∃ key, (val key).ownBlock = some k
/-- What is left of the shared row. -/
def StrsV (w : World) (base sb h pos : Nat) (v : Value) : Prop :=
  (pos = h ∧ ∃ A, v = .slice A 0 0) ∨ (pos < h ∧ base ≤ sb ∧ v = .slice (some ⟨sb, pos, none⟩) (h - pos) (h - pos) ∧ ∃ cur, Blk w sb cur 9 ∧ cur.size = h)
theorem Ent.own {w : World} {base sb pos : Nat} {v : Value} {l : List (List UInt8)} (h : Ent w base sb pos v l) : ∀ k, v.ownBlock = some k → base ≤ k ∧ k < w.heap.size := by
  intro k hk
  rcases h with ⟨h, _⟩ | ⟨j, s, rfl, _, _, hb, hc⟩
  · exact h.lt k hk
  · injection hk with hk
    subst hk
    exact ⟨hb, World.block_lt_of_cell? _ _ hc⟩
theorem Ent.of {w w' : World} {base sb pos : Nat} {v : Value} {l : List (List UInt8)} (h : Ent w base sb pos v l) (hb : ∀ k, v.ownBlock = some k → k < w.heap.size → w'.heap[k]? = w.heap[k]?) : Ent w' base sb pos v l := by
  rcases h with ⟨h, h2⟩ | ⟨j, s, rfl, h2, h3, h4, hc⟩
  · exact .inl ⟨h.of_blocks hb, h2⟩
  · exact .inr ⟨j, s, rfl, h2, h3, h4, (World.cell?_of_block (w := w) (a := ⟨sb, j, none⟩) (hb sb rfl (World.block_lt_of_cell? _ _ hc))).trans hc⟩
theorem Ent.form {w : World} {base sb pos : Nat} {v : Value} {l : List (List UInt8)} (h : Ent w base sb pos v l) : ∃ A c, v = .slice A l.length c ∧ l.length ≤ c ∧ c ≤ 9223372036854775807 ∧ SL w A l ∧ (l = [] → True) := by
  rcases h with ⟨h, _⟩ | ⟨j, s, rfl, rfl, _, _, hc⟩
  · obtain ⟨A, c, h1, h2, h3, h4⟩ := h.form
    exact ⟨A, c, h1, h2, h3, h4, fun _ => trivial⟩
  · refine ⟨_, 1, rfl, Nat.le_refl _, by decide, fun _ => ⟨sb, j, rfl, fun i u hu => ?_⟩, fun _ => trivial⟩
    rcases i with _ | i
    · simp at hu; subst hu; exact hc
    · simp at hu
theorem HdrM.lt {w : World} {base b sb n pos : Nat} {val : List UInt8 → Value} {f : HdrF} (h : HdrM w base b sb n pos val f) : ∀ k, HB b val k → base ≤ k ∧ k < w.heap.size := by
  intro k hk
  rcases hk with rfl | ⟨key, hk⟩
  · exact ⟨h.ge, h.map.lt⟩
  · exact (h.each key).own k hk
theorem HdrM.of {w w' : World} {base b sb n pos : Nat} {val : List UInt8 → Value} {f : HdrF} (h : HdrM w base b sb n pos val f) (hs : w.heap.size ≤ w'.heap.size) (hb : ∀ k, HB b val k → w'.heap[k]? = w.heap[k]?) : HdrM w' base b sb n pos val f :=
  ⟨h.map.of (hb b (.inl rfl)), h.ge, h.sne, Nat.lt_of_lt_of_le h.slt hs, fun k => (h.each k).of fun g hg _ => hb g (.inr ⟨k, hg⟩), h.apart, h.small, h.full⟩
theorem HdrM.below {w w' : World} {base b sb n pos : Nat} {val : List UInt8 → Value} {f : HdrF} (h : HdrM w base b sb n pos val f) (hb : Below w.heap.size w w') : HdrM w' base b sb n pos val f :=
  h.of hb.size fun k hk => hb.block k (h.lt k hk).2
theorem HdrM.ne {w : World} {base b sb n pos : Nat} {val : List UInt8 → Value} {f : HdrF} (h : HdrM w base b sb n pos val f) (k : List UInt8) : (val k).ownBlock ≠ some b := by
  intro e
  obtain ⟨D, ⟨es, clock, h1, _⟩, _⟩ := h.map
  rcases h.each k with ⟨ho, _⟩ | ⟨j, s, hv, _⟩
  · rcases ho.2 with ⟨h2, _⟩ | ⟨g, cap, cur, h2, _, h3, _⟩
    · rw [h2] at e; cases e
    · rw [h2] at e; injection e with e; rw [← e] at h1; rw [h3] at h1; cases h1
  · rw [hv] at e; injection e with e; exact h.sne e
theorem StrsV.of {w w' : World} {base sb h pos : Nat} {v : Value} (hs : StrsV w base sb h pos v) (hb : 0 < h → w'.heap[sb]? = w.heap[sb]?) : StrsV w' base sb h pos v := by
  rcases hs with hs | ⟨h1, h2, h3, cur, h4, h5⟩
  · exact .inl hs
  · exact .inr ⟨h1, h2, h3, cur, h4.same (hb (by omega)), h5⟩
theorem OS.lower {w : World} {base base' : Nat} {v : Value} {l : List (List UInt8)} (h : OS w base v l) (hb : base' ≤ base) : OS w base' v l := by
  obtain ⟨h1, h2⟩ := h
  refine ⟨h1, ?_⟩
  rcases h2 with h2 | ⟨g, cap, cur, e, hg, r⟩
  · exact .inl h2
  · exact .inr ⟨g, cap, cur, e, Nat.le_trans hb hg, r⟩
/-- One value more at a key. -/
theorem Ent.append {w : World} {base sb pos : Nat} {v : Value} {l : List (List UInt8)} (h : Ent w base sb pos v l) (t ty : TypeId) (ht : Tryd.prog.underlying t = some (.slice 9)) (g : Nat) (c : Nat) (s : List UInt8) (hc : w.cell? ⟨g, 0, none⟩ = some (.string ⟨s.toArray⟩)) (hlen : l.length ≤ 1000000000) (hbase : base ≤ w.heap.size) (hsb : sb < w.heap.size) :
    ∃ v' w', (Builtin.append_ #[t, t] ty #[v, .slice (some ⟨g, 0, none⟩) 1 c]).run Tryd.prog w = .ok v' w' ∧ OS w' base v' (l ++ [s]) ∧ v'.ownBlock ≠ some sb ∧ w.grownBy w' (if v.ownBlock = some sb then none else v.ownBlock) ∧ (∀ k, v'.ownBlock = some k → w.heap.size ≤ k ∨ v.ownBlock = some k) := by
  have hsl : SL w (some ⟨g, 0, none⟩) [s] := fun _ => ⟨g, 0, rfl, fun i u hu => by
    rcases i with _ | i
    · simp at hu; subst hu; exact hc
    · simp at hu⟩
  rcases h with ⟨h, h2⟩ | ⟨j, s0, rfl, rfl, hj, hbs, hcs⟩
  · obtain ⟨v', w', e1, e2, e3, e4⟩ := run_append_S t ty ht w base v l h (some ⟨g, 0, none⟩) [s] c hsl (by simp; omega) hbase
    have h5 : ∀ k, v'.ownBlock = some k → w.heap.size ≤ k ∨ v.ownBlock = some k := fun k hk => by
      rcases e4 with e | e
      · rw [e] at hk; exact .inr hk
      · rw [e] at hk; injection hk with hk; exact .inl (by omega)
    refine ⟨v', w', e1, e2, fun e => ?_, by rw [if_neg h2]; exact e3, h5⟩
    rcases h5 _ e with h6 | h6
    · omega
    · exact h2 h6
  · obtain ⟨i0, hi, hz0, hz1, hz2⟩ := info_parts Tryd.infoS
    obtain ⟨v', w', e1, e2, e3⟩ := run_append_arg_grows (P := Tryd.prog) w t ty 9 i0 (.string ⟨#[]⟩) 1 16 ht hi hz0 hz1 hz2 rfl (by decide) ⟨sb, j, none⟩ 1 1 [.string ⟨s0.toArray⟩] rfl (fun i u hu => by
      rcases i with _ | i
      · simp at hu; subst hu; exact hcs
      · simp at hu) ⟨g, 0, none⟩ 1 c [.string ⟨s.toArray⟩] rfl (fun i u hu => by
      rcases i with _ | i
      · simp at hu; subst hu; exact hc
      · simp at hu) (by decide) (by decide) (by decide)
    have ho : OS w' w.heap.size v' [s0, s] := e2
    refine ⟨v', w', e1, ho.lower hbase, fun e => ?_, by rw [if_pos (show (Value.slice (some ⟨sb, j, none⟩) 1 1).ownBlock = some sb from rfl)]; exact e3, fun k hk => .inl (ho.lt k hk).1⟩
    have := (ho.lt _ e).1
    omega
end Go.Proofs.YtilhgjcjofobeaaDoor
namespace Go.Proofs.YtilhgjcjofobeaaDoor
open Go.RowKit

/-- A value without the blanks ahead of it. -/
def valOf (v : List UInt8) : List UInt8 := v.dropWhile ([32, 9].contains ·)
/-- What is read of S, where f has been read and n lines of a key and a value are to come. -/
inductive HOk : List UInt8 → HdrF → Nat → HdrF → Er → List UInt8 → Prop
  | stop {S R : List UInt8} {f : HdrF} {er : Er} : (∀ line er' R', CSays colonV S line er' R' → line = [] ∧ er' = er ∧ R' = R) → HOk S f 0 f er R
  | go {S R1 R k v : List UInt8} {f f' : HdrF} {n : Nat} {er : Er} : (∀ line er' R', CSays colonV S line er' R' → line = k ++ 58 :: v ∧ er' = .nil ∧ R' = R1) → 58 ∉ k → looseKey k = true → v.all (fun c => valueB c.toNat) = true → k.length + v.length + R1.length ≤ S.length →
      HOk R1 (updF f (canonOf k) (f (canonOf k) ++ [valOf v])) n f' er R → HOk S f (n + 1) f' er R
theorem cut_unique {a : UInt8} {k v x y : List UInt8} (h : k ++ a :: v = x ++ a :: y) (hk : a ∉ k) (hx : a ∉ x) : k = x ∧ v = y := by
  induction k generalizing x with
  | nil =>
    cases x with
    | nil => exact ⟨rfl, by simpa using h⟩
    | cons b x =>
      simp at h
      exact absurd (h.1 ▸ List.mem_cons_self ..) hx
  | cons b k ih =>
    cases x with
    | nil =>
      simp at h
      exact absurd (h.1 ▸ List.mem_cons_self ..) hk
    | cons c x =>
      simp at h
      obtain ⟨rfl, h2⟩ := h
      obtain ⟨e1, e2⟩ := ih h2 (fun hm => hk (List.mem_cons_of_mem _ hm)) (fun hm => hx (List.mem_cons_of_mem _ hm))
      exact ⟨by rw [e1], e2⟩
theorem valOf_le (v : List UInt8) : (valOf v).length ≤ v.length := (List.dropWhile_sublist _).length_le
theorem canonOf_len (k : List UInt8) : (canonOf k).length = k.length := by
  unfold canonOf
  split
  · exact canonL_length k
  · rfl
end Go.Proofs.YtilhgjcjofobeaaDoor
namespace Go.Proofs.YtilhgjcjofobeaaDoor
open Go.RowKit

theorem bareP_of {p : List UInt8} (h : bareB p = true) : BareP p := by
  unfold bareB at h
  simp only [Bool.and_eq_true, bne_iff_ne, ne_eq] at h
  obtain ⟨h1, h2, h3⟩ := h
  refine ⟨fun c hc => ?_, fun c t e => ?_, fun c t e => ?_⟩
  · have := List.all_eq_true.1 h1 c hc
    simp at this
    have h4 := this.1
    refine ⟨?_, ?_, ?_⟩ <;> (rintro rfl; revert h4; decide)
  · subst e
    simpa using h2
  · subst e
    simpa using h3
theorem well_ne {L : LongR} (h : wellB L = true) : L.ps ≠ [] := by
  unfold wellB at h
  simp only [Bool.and_eq_true, decide_eq_true_eq] at h
  intro e
  rw [e] at h
  simp at h
theorem well_bl {L : LongR} (h : wellB L = true) : L.bl.length ≤ 20 := by
  unfold wellB blanksB at h
  simp only [Bool.and_eq_true, decide_eq_true_eq] at h
  exact h.2.1.2.2
theorem well_P {p : List UInt8} {r : List (List UInt8)} {bl : List UInt8} {feed : Bool} (h : wellB ⟨p :: r, bl, feed⟩ = true) : LongP p r bl ∧ bareB p = true ∧ ∀ q ∈ r, bareB q = true := by
  unfold wellB blanksB at h
  simp only [Bool.and_eq_true, decide_eq_true_eq, List.all_eq_true] at h
  obtain ⟨h1, ⟨_, h2, _⟩, h3⟩ := h
  have hb : ∀ q ∈ p :: r, bareB q = true ∧ (r ≠ [] → q ≠ []) := fun q hq => by
    have := h1 q hq
    unfold pieceB at this
    simp only [Bool.and_eq_true, Bool.not_eq_true'] at this
    refine ⟨this.1, fun hr e => ?_⟩
    have h4 := this.2
    rw [e] at h4
    have h5 : 1 < (p :: r).length := by have := List.length_pos_iff.2 hr; simp; omega
    simp at h4
    exact hr h4
  refine ⟨⟨bareP_of (hb p (List.mem_cons_self ..)).1, fun q hq => ?_, fun hr => ⟨(hb p (List.mem_cons_self ..)).2 hr, ?_⟩, fun c hc => h2 c hc⟩, (hb p (List.mem_cons_self ..)).1, fun q hq => (hb q (List.mem_cons_of_mem _ hq)).1⟩
  · exact ⟨bareP_of (hb q (List.mem_cons_of_mem _ hq)).1, (hb q (List.mem_cons_of_mem _ hq)).2 (by rintro rfl; cases hq)⟩
  · intro e
    have e' : bl = [] := e
    rw [e'] at h3
    simp at h3
    exact hr h3
theorem moreText_le {bl : List UInt8} (feed : Bool) (h : bl.length ≤ 20) (ps : List (List UInt8)) : (moreText bl feed ps).length ≤ 23 * wtS ps := by
  induction ps with
  | nil => simp [moreText, wtS]
  | cons p r ih =>
    have he : (eol feed).length ≤ 2 := by cases feed <;> simp [eol]
    have e1 : moreText bl feed (p :: r) = bl ++ (p ++ eol feed) ++ moreText bl feed r := by simp [moreText]
    have e2 : wtS (p :: r) = p.length + 1 + wtS r := by simp [wtS]
    rw [e1, e2, List.length_append, List.length_append, List.length_append]
    omega
theorem textR_le {bl : List UInt8} (feed : Bool) (h : bl.length ≤ 20) (ps : List (List UInt8)) : (textR bl feed ps).length ≤ 23 * wtS ps := by
  cases ps with
  | nil => simp [textR]
  | cons p r =>
    have he : (eol feed).length ≤ 2 := by cases feed <;> simp [eol]
    have := moreText_le feed h r
    have e2 : wtS (p :: r) = p.length + 1 + wtS r := by simp [wtS]
    rw [e2]
    simp only [textR, List.length_append]
    omega
theorem saysR_le (ps : List (List UInt8)) : (saysR ps).length ≤ wtS ps := by
  have hm : ∀ r : List (List UInt8), (moreSays r).length ≤ wtS r := fun r => by
    induction r with
    | nil => simp [moreSays]
    | cons p r ih =>
      have e1 : moreSays (p :: r) = 32 :: p ++ moreSays r := by simp [moreSays]
      have e2 : wtS (p :: r) = p.length + 1 + wtS r := by simp [wtS]
      rw [e1, e2, List.length_append, List.length_cons]
      omega
  cases ps with
  | nil => simp [saysR]
  | cons p r =>
    have := hm r
    have e2 : wtS (p :: r) = p.length + 1 + wtS r := by simp [wtS]
    rw [e2]
    simp only [saysR, List.length_append]
    omega
/-- A field that is well. -/
def goodF (F : FieldR) : Bool := (keyB F.key && !F.key.isEmpty) && wellB F.val
def fieldT (F : FieldR) : List UInt8 := F.key ++ ([58, 32] ++ textR F.val.bl F.val.feed F.val.ps)
def fieldsT (Fs : List FieldR) : List UInt8 := Fs.flatMap fieldT
def addF (f : HdrF) (F : FieldR) : HdrF := updF f (canonOf F.key) (f (canonOf F.key) ++ [saysR F.val.ps])
theorem fieldB_print {c : UInt8} (h : fieldB c.toNat = true) : c ≠ 9 ∧ c ≠ 10 ∧ c ≠ 13 ∧ c ≠ 32 ∧ c ≠ 58 := by
  refine ⟨?_, ?_, ?_, ?_, ?_⟩ <;> (rintro rfl; revert h; decide +kernel)
theorem printB_all {p : List UInt8} (h : bareB p = true) : ∀ c ∈ p, 32 ≤ c.toNat ∧ c.toNat ≤ 126 := by
  unfold bareB printB at h
  simp only [Bool.and_eq_true, List.all_eq_true, decide_eq_true_eq] at h
  exact h.1
theorem valueB_of {c : UInt8} (h : 32 ≤ c.toNat ∧ c.toNat ≤ 126) : valueB c.toNat = true := by
  unfold valueB
  have h1 : ((c.toNat : Int) == 127) = false := by rw [beq_eq_false_iff_ne]; omega
  rw [decide_eq_true (show (32 : Int) ≤ (c.toNat : Int) by omega), h1]
  rfl
theorem trimB_space {x : List UInt8} (h : BareP x) (hx : x ≠ []) : trimB (x ++ [32]) = x := by
  have h1 : (x ++ [32]).dropWhile blank = x ++ [32] := by
    cases x with
    | nil => exact absurd rfl hx
    | cons a t => simp [h.head_blank rfl]
  have h2 : (32 :: x.reverse).dropWhile blank = x.reverse := by
    rw [List.dropWhile_cons_of_pos (by decide)]
    rcases List.eq_nil_or_concat x with rfl | ⟨t, a, rfl⟩
    · exact absurd rfl hx
    · rw [List.concat_eq_append] at h ⊢
      simp [h.last_blank rfl]
  unfold trimB
  rw [h1, List.reverse_append]
  show ((32 :: x.reverse).dropWhile blank).reverse = x
  rw [h2, List.reverse_reverse]
theorem moreSays_le (ps : List (List UInt8)) (bl : List UInt8) (feed : Bool) : (moreSays ps).length ≤ (moreText bl feed ps).length := by
  have he : 1 ≤ (eol feed).length := by cases feed <;> simp [eol]
  induction ps with
  | nil => simp [moreSays]
  | cons p r ih =>
    have e1 : moreText bl feed (p :: r) = bl ++ (p ++ eol feed) ++ moreText bl feed r := by simp [moreText]
    have e2 : moreSays (p :: r) = 32 :: p ++ moreSays r := by simp [moreSays]
    rw [e1, e2]
    simp only [List.length_append, List.length_cons]
    omega
theorem keyP {k p : List UInt8} (hk : keyB k = true) (hne : k ≠ []) (hp : BareP p) : BareP (k ++ [58] ++ (if p = [] then [] else 32 :: p)) := by
  have hkb : ∀ c ∈ k, c ≠ 9 ∧ c ≠ 10 ∧ c ≠ 13 ∧ c ≠ 32 ∧ c ≠ 58 := fun c hc => fieldB_print (List.all_eq_true.1 hk c hc)
  refine ⟨fun c hc => ?_, fun c t e => ?_, fun c t e => ?_⟩
  · simp only [List.mem_append, List.mem_singleton] at hc
    rcases hc with (hc | hc) | hc
    · exact ⟨(hkb c hc).1, (hkb c hc).2.1, (hkb c hc).2.2.1⟩
    · subst hc; decide
    · split at hc
      · cases hc
      · rcases List.mem_cons.1 hc with rfl | hc
        · decide
        · exact hp.print c hc
  · cases k with
    | nil => exact absurd rfl hne
    | cons a u =>
      simp at e
      have := (hkb a (List.mem_cons_self ..)).2.2.2.1
      rw [e.1] at this
      exact this
  · split at e
    · have h1 : c = 58 := by
        have := congrArg List.getLast? e
        simpa using this.symm
      rw [h1]; decide
    · rename_i hpn
      rcases List.eq_nil_or_concat p with h0 | ⟨u, a, h0⟩
      · exact absurd h0 hpn
      · rw [List.concat_eq_append] at h0
        have h1 : c = a := by
          rw [h0] at e
          have e2 : (k ++ [58] ++ 32 :: u) ++ [a] = t ++ [c] := by rw [← e]; simp
          have := (List.append_inj' e2 rfl).2
          injection this with this
          exact this.symm
        rw [h1]
        exact hp.last a u h0
/-- One field. -/
def valT (F : FieldR) : List UInt8 := if saysR F.val.ps = [] then [] else 32 :: saysR F.val.ps
theorem field_says {F : FieldR} {X : List UInt8} (h : goodF F = true) (hX : ∀ c t, X = c :: t → blank c = false) :
    (∀ line er R, CSays colonV (fieldT F ++ X) line er R → line = F.key ++ 58 :: valT F ∧ er = .nil ∧ R = X) ∧ (valT F).all (fun c => valueB c.toNat) = true ∧ valOf (valT F) = saysR F.val.ps ∧ F.key.length + (valT F).length + X.length ≤ (fieldT F ++ X).length := by
  obtain ⟨k, ps, bl, feed⟩ := F
  unfold goodF at h
  simp only [Bool.and_eq_true, Bool.not_eq_true'] at h
  obtain ⟨⟨hk, hke⟩, hw⟩ := h
  have hk : keyB k = true := hk
  have hke : k ≠ [] := by rintro rfl; exact absurd hke (by decide)
  cases ps with
  | nil => exact absurd rfl (well_ne hw)
  | cons p r =>
    obtain ⟨hL, hbp, hbr⟩ := well_P hw
    have hkb : ∀ c ∈ k, c ≠ 9 ∧ c ≠ 10 ∧ c ≠ 13 ∧ c ≠ 32 ∧ c ≠ 58 := fun c hc => fieldB_print (List.all_eq_true.1 hk c hc)
    have hT : fieldT ⟨k, ⟨p :: r, bl, feed⟩⟩ ++ X = (k ++ 58 :: 32 :: p) ++ (eol feed ++ (moreText bl feed r ++ X)) := by simp [fieldT, textR]
    have hfl : Flat (k ++ 58 :: 32 :: p) := fun c hc => by
      simp only [List.mem_append, List.mem_cons] at hc
      rcases hc with hc | rfl | rfl | hc
      · exact ⟨(hkb c hc).2.1, (hkb c hc).2.2.1⟩
      · decide
      · decide
      · exact (hL.first.print c hc).2
    have hmore := fun (line : List UInt8) (er : Er) (R : List UInt8) (hs : CSays colonV ((k ++ 58 :: 32 :: p) ++ (eol feed ++ (moreText bl feed r ++ X))) line er R) =>
      hs.more hfl (fun _ => by unfold colonV; rw [if_pos (by simp)]) (fun _ => by simp) hL.blanks (fun e => (hL.ne e).2) hL.more hX
    have hP := keyP hk hke hL.first
    have hlen : (moreSays r).length ≤ (moreText bl feed r).length := moreSays_le r bl feed
    have he : 1 ≤ (eol feed).length := by cases feed <;> simp [eol]
    have hvr : (moreSays r).all (fun c => valueB c.toNat) = true := by
      rw [List.all_eq_true]
      intro c hc
      unfold moreSays at hc
      obtain ⟨q, hq, hc⟩ := List.mem_flatMap.1 hc
      rcases List.mem_cons.1 hc with rfl | hc
      · decide
      · exact valueB_of (printB_all (hbr q hq) c hc)
    by_cases hp0 : p = []
    · subst hp0
      have hr0 : r = [] := by
        by_cases hr : r = []
        · exact hr
        · exact absurd rfl (hL.ne hr).1
      subst hr0
      rw [if_pos rfl, List.append_nil] at hP
      have ht : trimB (k ++ [58, 32]) = k ++ [58] := by
        have := trimB_space hP (by simp)
        rwa [List.append_assoc] at this
      have hv : valT ⟨k, ⟨[[]], bl, feed⟩⟩ = [] := rfl
      rw [hv]
      refine ⟨fun line er R hs => ?_, rfl, rfl, ?_⟩
      · rw [hT] at hs
        obtain ⟨h1, h2, h3⟩ := hmore _ _ _ hs
        refine ⟨?_, h1, h3⟩
        rw [h2]
        show trimB (k ++ [58, 32]) ++ moreSays [] = _
        rw [ht]
        simp [moreSays]
      · rw [hT]; simp; omega
    · rw [if_neg hp0] at hP
      have ht : trimB (k ++ 58 :: 32 :: p) = k ++ 58 :: 32 :: p := by
        have := trimB_bare hP
        simpa using this
      have hv : valT ⟨k, ⟨p :: r, bl, feed⟩⟩ = 32 :: p ++ moreSays r := if_neg (show ¬ p ++ moreSays r = [] from fun e => hp0 (List.append_eq_nil_iff.1 e).1)
      rw [hv]
      refine ⟨fun line er R hs => ?_, ?_, ?_, ?_⟩
      · rw [hT] at hs
        obtain ⟨h1, h2, h3⟩ := hmore _ _ _ hs
        refine ⟨?_, h1, h3⟩
        rw [h2, ht]; simp
      · rw [List.all_append, hvr, Bool.and_true, List.all_eq_true]
        intro c hc
        rcases List.mem_cons.1 hc with rfl | hc
        · decide
        · exact valueB_of (printB_all hbp c hc)
      · cases hpe : p with
        | nil => exact absurd hpe hp0
        | cons a u =>
          have ha := hL.first.head a u hpe
          have ha9 := (hL.first.print a (by rw [hpe]; exact List.mem_cons_self ..)).1
          have hna : ([32, 9] : List UInt8).contains a = false := by simp [ha, ha9]
          show (32 :: (a :: u) ++ moreSays r).dropWhile (([32, 9] : List UInt8).contains ·) = (a :: u) ++ moreSays r
          rw [List.cons_append, List.dropWhile_cons_of_pos (by decide), List.cons_append, List.dropWhile_cons_of_neg (by rw [hna]; decide)]
      · rw [hT]; simp; omega
theorem fieldT_head {F : FieldR} {X : List UInt8} (h : goodF F = true) : ∀ c t, fieldT F ++ X = c :: t → blank c = false := by
  intro c t e
  unfold goodF at h
  simp only [Bool.and_eq_true, Bool.not_eq_true'] at h
  obtain ⟨⟨hk, hke⟩, _⟩ := h
  unfold fieldT at e
  cases hkk : F.key with
  | nil => rw [hkk] at hke; exact absurd hke (by decide)
  | cons a u =>
    rw [hkk] at e hk
    simp at e
    have := fieldB_print (List.all_eq_true.1 hk a (List.mem_cons_self ..))
    rw [e.1] at this
    rw [Bool.eq_false_iff]
    intro hb
    rcases blank_iff.1 hb with hb | hb
    · exact this.2.2.2.1 hb
    · exact this.1 hb
theorem fieldsT_head {Fs : List FieldR} {X : List UInt8} (h : ∀ F ∈ Fs, goodF F = true) (hX : ∀ c t, X = c :: t → blank c = false) : ∀ c t, fieldsT Fs ++ X = c :: t → blank c = false := by
  cases Fs with
  | nil => exact hX
  | cons F Fs =>
    intro c t e
    have e2 : fieldsT (F :: Fs) ++ X = fieldT F ++ (fieldsT Fs ++ X) := by simp [fieldsT]
    rw [e2] at e
    exact fieldT_head (h F (List.mem_cons_self ..)) c t e
/-- All fields, and what is behind them. -/
theorem hok_fields {X R : List UInt8} {er : Er} (hX : ∀ c t, X = c :: t → blank c = false) (hst : ∀ line er' R', CSays colonV X line er' R' → line = [] ∧ er' = er ∧ R' = R) :
    ∀ (Fs : List FieldR) (f : HdrF), (∀ F ∈ Fs, goodF F = true) → HOk (fieldsT Fs ++ X) f Fs.length (Fs.foldl addF f) er R
  | [], f, _ => .stop hst
  | F :: Fs, f, h => by
    have ih := hok_fields hX hst Fs (addF f F) (fun G hG => h G (List.mem_cons_of_mem _ hG))
    have hF := h F (List.mem_cons_self ..)
    have e2 : fieldsT (F :: Fs) ++ X = fieldT F ++ (fieldsT Fs ++ X) := by simp [fieldsT]
    have hY := fieldsT_head (X := X) (fun G hG => h G (List.mem_cons_of_mem _ hG)) hX
    rw [e2]
    obtain ⟨h1, h2, h3, h4⟩ := field_says hF hY
    have hkl := hF
    unfold goodF at hkl
    simp only [Bool.and_eq_true, Bool.not_eq_true'] at hkl
    obtain ⟨⟨hk, hke⟩, _⟩ := hkl
    refine .go (k := F.key) (v := valT F) h1 (fun hm => (fieldB_print (List.all_eq_true.1 hk _ hm)).2.2.2.2 rfl) ?_ h2 h4 ?_
    · unfold looseKey
      rw [hke, Bool.not_false, Bool.true_and, List.all_eq_true]
      intro c hc
      unfold loose
      rw [List.all_eq_true.1 hk c hc, Bool.true_or]
    · rw [h3]
      exact ih
theorem says_end {rest line R : List UInt8} {er : Er} (hs : CSays colonV ([13, 10] ++ rest) line er R) : line = [] ∧ er = .nil ∧ R = rest := by
  have hfl : Flat [] := fun c hc => by cases hc
  have he : ∀ {l R : List UInt8} {er : Er}, TSays ([13, 10] ++ rest) l er R → er = .nil ∧ l = [] ∧ R = rest := fun h => TSays.eol (p := []) (feed := false) hfl h
  cases hs with
  | err h1 h2 => exact absurd (he h1).1 h2
  | blank h1 => exact ⟨rfl, rfl, (he h1).2.2⟩
  | bad h1 h2 _ => exact absurd (he h1).2.1 h2
  | line h1 h2 _ _ => exact absurd (he h1).2.1 h2
theorem says_bad {l rest line R : List UInt8} {er : Er} (hl : Flat l) (hne : l ≠ []) (hc : 58 ∉ l) (hs : CSays colonV (l ++ ([13, 10] ++ rest)) line er R) : line = [] ∧ er = .proto colonMsg ∧ R = rest := by
  have he : ∀ {l' R : List UInt8} {er : Er}, TSays (l ++ ([13, 10] ++ rest)) l' er R → er = .nil ∧ l' = l ∧ R = rest := fun h => TSays.eol (feed := false) hl h
  have hv : colonV l = .proto colonMsg := if_neg hc
  cases hs with
  | err h1 h2 => exact absurd (he h1).1 h2
  | blank h1 => exact absurd (he h1).2.1.symm hne
  | bad h1 _ _ =>
    obtain ⟨_, rfl, rfl⟩ := he h1
    exact ⟨rfl, hv, rfl⟩
  | line h1 _ h3 _ =>
    obtain ⟨_, rfl, rfl⟩ := he h1
    rw [hv] at h3
    cases h3
end Go.Proofs.YtilhgjcjofobeaaDoor
