/- The walks of strings.Builder's WriteByte and WriteString; String by its contract. -/
import Derived.Test.YtfnkkjehkegpgaaDoorRdI
import Derived.Test.YtfnkkjehkegpgaaDoorRdM
import Derived.Test.YtfnkkjehkegpgaaDoorShelfS
import Derived.Lib.Builder
import Derived.Laws.Externs
import Derived.Lib.AppendStr
namespace Go.Proofs.YtfnkkjehkegpgaaDoor
open Go.RowKit

/-- A builder in block b that holds l; its row lies from block B on. -/
def Bd (w : World) (B b : Nat) (l : List UInt8) : Prop :=
  ∃ p v, (p = .pointer none ∨ p = .pointer (some ⟨b, 0, none⟩)) ∧ B ≤ b ∧ Blk w b #[p, v] 62 ∧ OB w B v l ∧ v.ownBlock ≠ some b
/-- .. that has been written to. -/
def BdU (w : World) (B b : Nat) (l : List UInt8) : Prop :=
  ∃ v, B ≤ b ∧ Blk w b #[.pointer (some ⟨b, 0, none⟩), v] 62 ∧ OB w B v l ∧ v.ownBlock ≠ some b
theorem BdU.bd {w : World} {B b : Nat} {l : List UInt8} (h : BdU w B b l) : Bd w B b l := by
  obtain ⟨v, h1, h2, h3, h4⟩ := h
  exact ⟨_, v, .inr rfl, h1, h2, h3, h4⟩
theorem OB.blocks {w w' : World} {base : Nat} {v : Value} {l : List UInt8} (h : OB w base v l) (hb : ∀ k, v.ownBlock = some k → k < w.heap.size → w'.heap[k]? = w.heap[k]?) : OB w' base v l := by
  have hlt := h.lt
  obtain ⟨h1, h2⟩ := h
  refine ⟨h1, ?_⟩
  rcases h2 with ⟨rfl, h0⟩ | ⟨g, cap, cur, rfl, hbg, hg, r⟩
  · exact .inl ⟨rfl, h0⟩
  · exact .inr ⟨g, cap, cur, rfl, hbg, by rw [hb g rfl (hlt g rfl).2]; exact hg, r⟩
theorem Bd.of {w w' : World} {B b : Nat} {l : List UInt8} (h : Bd w B b l) (hb : ∀ k, B ≤ k → k < w.heap.size → w'.heap[k]? = w.heap[k]?) : Bd w' B b l := by
  obtain ⟨p, v, hp, h1, h2, h3, h4⟩ := h
  exact ⟨p, v, hp, h1, h2.same (hb b h1 h2.lt), h3.blocks (fun k hk hl => hb k (h3.lt k hk).1 hl), h4⟩
theorem Bd.new (w : World) : Bd (w.alloc (.cells #[.pointer none, .slice none 0 0] 62)) w.heap.size w.heap.size [] :=
  ⟨_, _, .inl rfl, Nat.le_refl _, Blk.new w _ _, OB.nil _ _, by simp [Value.ownBlock]⟩
theorem bd_lt {w : World} {B b : Nat} {l : List UInt8} (h : Bd w B b l) : b < w.heap.size := by
  obtain ⟨p, v, hp, h1, h2, h3, h4⟩ := h
  exact h2.lt
set_option maxRecDepth 100000 in
theorem copyCheck_any {w : World} {B b : Nat} {l : List UInt8} (h : Bd w B b l) :
    Calls Tryd.prog 38 #[.pointer (some ⟨b, 0, none⟩)] w fun e w' => e = .returned (.tuple #[]) ∧ BdU w' B b l ∧ Below B w w' := by
  obtain ⟨p, v, hp, hB, hblk, hown, hne⟩ := h
  have c0 := hblk.cell 0
  have c0 : w.cell? ⟨b, 0, none⟩ = some p := c0
  have hfz := hblk.free 0
  have hsh : w.shape? b = some (62, 2) := by
    have h : w.heap[b]? = some (.cells #[p, v] 62 (0, 0)) := hblk
    simp [World.shape?, h]
  have H := Lib.hid (And.intro hB (And.intro hblk (And.intro hown hne)))
  clear hblk hown hne
  rcases hp with rfl | rfl
  · obtain ⟨j, hj, hjs⟩ := Option.map_eq_some_iff.1 (show (Tryd.prog.info? 62).map (·.size) = some 2 by kernel_rfl)
    go_enter Tryd.func38, Tryd.ntmps38
    go_wp2
    rw [Lib.run_to_unsafe w ⟨b, 0, none⟩ Tryd.underlying60 Tryd.underlying92 hj (by rw [hjs]; decide) hsh (Nat.zero_lt_succ 1)]
    simp only [Result.andThen]
    rw [Oper.upon_value]
    go_wp2
    rw [run_callFunc_extern Tryd.func44 (by kernel_rfl) (by kernel_rfl) (by kernel_rfl) (e := Extern.AbiNoEscape.same) (by kernel_rfl)]
    rw [Lib.run_noEscape]
    simp only [Result.andThen]
    rw [Oper.upon_value]
    go_wp2
    rw [Lib.run_from_unsafe w ⟨b, 0, none⟩ Tryd.underlying92 Tryd.underlying60 hj hsh (by kernel_rfl)]
    simp only [Result.andThen]
    rw [Oper.upon_value]
    go_wp2
    go_end0
    obtain ⟨hB, hblk, hown, hne⟩ := H.out
    exact ⟨rfl, ⟨v, hB, hblk.set 0 _, hown.blocks (fun k hk _ => Below.heap_setCell _ _ _ _ (fun e => hne (by rw [hk, show k = b from e]))), hne⟩, (Below.refl _ _).setCell (p := ⟨b, 0, none⟩) hB _⟩
  · obtain ⟨j, hj, _⟩ := Option.map_eq_some_iff.1 (show (Tryd.prog.info? 62).map (·.size) = some 2 by kernel_rfl)
    go_enter Tryd.func38, Tryd.ntmps38
    go_wp2
    rw [Lib.run_neq_ptr_same w _ Tryd.underlying60 hj]
    go_wp2
    go_end0
    obtain ⟨hB, hblk, hown, hne⟩ := H.out
    exact ⟨rfl, ⟨v, hB, hblk, hown, hne⟩, Below.refl _ _⟩
theorem bdBytes (l : List UInt8) : Lib.strCells ⟨l.toArray⟩ = bts l := by simp [Lib.strCells, bts]
theorem OB.ne_blk {w : World} {base b : Nat} {v : Value} {l : List UInt8} {cs : Array Value} (h : OB w base v l) (hb : Blk w b cs 62) : v.ownBlock ≠ some b := by
  obtain ⟨_, h2⟩ := h
  rcases h2 with ⟨rfl, _⟩ | ⟨g, cap, cur, rfl, _, hg, _⟩
  · simp [Value.ownBlock]
  · intro e
    have e2 : g = b := by simpa [Value.ownBlock] using e
    subst e2
    have h3 : w.heap[g]? = some (.cells cs 62 (0, 0)) := hb
    rw [h3] at hg
    injection hg with hg
    injection hg with _ hg _
    exact absurd hg (by decide)
theorem wpList_append_str {ops : Array Oper} {Q : Exit → Act → World → Prop} {a : Act} {w : World} {rest : List Oper} {o : Oper}
    (hw : Region.wanted o (yielded ops a.tmps) = true) (s x : Operand) (ho : o.op = .call { callee := .builtin .append, args := #[s, x], argTypes := #[23, 9] })
    (base : Nat) (v : Value) (l : List UInt8) (hs : a.eval s = v) (hown : OB w base v l) (m : List UInt8) (hx : a.eval x = .string ⟨m.toArray⟩)
    (hlen : l.length + m.length ≤ 140737488355328) (hbase : base ≤ w.heap.size) (k : Nat) (hk : k = l.length + m.length)
    (h : ∀ A' c' w', OB w' base (.slice A' k c') (l ++ m) → w.grownBy w' v.ownBlock → wpList Tryd.prog ops Q rest (a.put o.dst (.slice A' k c')) w') : wpList Tryd.prog ops Q (o :: rest) a w := by
  subst hk
  obtain ⟨i0, hi, hz0, hz1, hz2⟩ := info_parts Tryd.infoU
  obtain ⟨v', w', h1, h2, h3, _⟩ := Lib.run_append_own_string (P := Tryd.prog) w base 23 9 o.type 5 i0 Tryd.underlying23 Tryd.underlying9 hi hz0 hz1 hz2 v l.length (bts l) hown ⟨m.toArray⟩ (by rw [mk_size]; unfold maxLen; omega) (by rw [mk_size]; omega) hbase
  have h2' : OB w' base v' (l ++ m) := by
    unfold OB
    rw [bts_append, List.length_append, ← bdBytes m]
    exact h2
  obtain ⟨A', c', rfl, hc, hc', hr'⟩ := h2'.form
  rw [List.length_append] at h1 h2'
  exact wpList_value hw (exec_builtin2 ho hs hx h1) (h A' c' w' h2' h3)
theorem at_append_str {P : Program} {ops : Array Oper} {Q : Exit → Act → World → Prop} {a : Act} {w : World} {rest : List Oper} {d : Option Tmp} {s x : Operand} {t : TypeId} {p : String} {af : Array Edge} {g : Option (Nat × Bool)}
    (h : wpList P ops Q (⟨d, .call ⟨.builtin .append, #[s, x], #[23, 9]⟩, t, p, af, g⟩ :: rest) a w) : wpList P ops Q (⟨d, .call ⟨.builtin .append, #[s, x], #[23, 9]⟩, t, p, af, g⟩ :: rest) a w := h
theorem RB.byteB (w : World) (b : UInt8) (t : TypeId) (g : Nat) (hg : g = w.heap.size) : RB (w.alloc (.cells #[.int .u8 b.toNat] t)) (some ⟨g, 0, none⟩) [b] := by
  subst hg
  intro _
  refine ⟨_, _, rfl, fun i u hu => ?_⟩
  rcases i with _ | i
  · simp at hu; subst hu; simp
  · simp at hu
/-- The builder's row has been appended to. -/
theorem BdU.put {w w2 : World} {B b n c : Nat} {v : Value} {A : Option Addr} {l : List UInt8} (hB : B ≤ b) (hblk : Blk w b #[.pointer (some ⟨b, 0, none⟩), v] 62) (hne : v.ownBlock ≠ some b) (hg : w.grownBy w2 v.ownBlock) (hown : OB w2 B (.slice A n c) l) :
    BdU (w2.setCell ⟨b, 1, none⟩ (.slice A n c)) B b l := by
  have h2 : Blk w2 b #[.pointer (some ⟨b, 0, none⟩), v] 62 := hblk.same (hg.block b hblk.lt (fun e => hne e.symm))
  have hn := hown.ne_blk h2
  exact ⟨.slice A n c, hB, h2.set 1 _, hown.blocks (fun k hk _ => Below.heap_setCell _ _ _ _ (fun e => hn (by rw [hk, show k = b from e]))), hn⟩
set_option maxRecDepth 100000 in
theorem writeStr_any {w : World} {B b : Nat} {l : List UInt8} (h : Bd w B b l) (m : List UInt8) (hlen : l.length + m.length ≤ 140737488355328) (hw : B ≤ w.heap.size) :
    Calls Tryd.prog 30 #[.pointer (some ⟨b, 0, none⟩), .string ⟨m.toArray⟩] w fun e w' => e = .returned (.tuple #[.int .i64 m.length, .nilIface]) ∧ Bd w' B b (l ++ m) ∧ Below B w w' := by
  have hc := copyCheck_any h
  have H := Lib.hid (And.intro hc hw)
  clear hc h
  go_enter Tryd.func30, Tryd.ntmps30
  go_wp2_with (first
    | (go_at_call 38; refine H.out.1.mono ?_; rintro e w1 ⟨rfl, ⟨v1, hB, hblk, hown, hne⟩, hb1⟩; obtain ⟨A1, c1, rfl, hle, hle', _⟩ := hown.form; have k1 : w1.cell? ⟨b, 1, none⟩ = some (.slice A1 l.length c1) := hblk.cell 1; have H1 := Lib.hid (And.intro hB (And.intro hblk (And.intro hown (And.intro hne hb1)))); clear hB hblk hown hne hb1)
    | ((with_reducible refine at_append_str ?_); refine wpList_append_str rfl (.tmp 12) (.tmp 13) rfl B (.slice A1 l.length c1) l rfl H1.out.2.2.1 m rfl hlen (by have := H1.out.2.2.2.2.size; have := H.out.2; omega) (l.length + m.length) rfl ?_; intro A2 c2 w2 hown2 hg2; have hb2 : Blk w2 b #[.pointer (some ⟨b, 0, none⟩), .slice A1 l.length c1] 62 := H1.out.2.1.same (hg2.block b H1.out.2.1.lt (fun e => H1.out.2.2.2.1 e.symm)); have q1 : w2.cell? ⟨b, 1, none⟩ = some (.slice A1 l.length c1) := hb2.cell 1; have f1 := hb2.free 1; have H2 := Lib.hid (And.intro hown2 hg2); clear hown2 hg2 hb2))
  go_ret2
  obtain ⟨hB, hblk, hown, hne, hb1⟩ := H1.out
  exact ⟨rfl, (BdU.put hB hblk hne H2.out.2 H2.out.1).bd, (hb1.grown H2.out.2 (by have := H.out.2; have := hb1.size; omega) (fun k hk => (hown.lt k hk).1)).setCell (p := ⟨b, 1, none⟩) hB _⟩
set_option maxRecDepth 100000 in
theorem writeByteB_any {w : World} {B b : Nat} {l : List UInt8} (h : Bd w B b l) (x : UInt8) (hlen : l.length + 1 ≤ 140737488355328) (hw : B ≤ w.heap.size) :
    Calls Tryd.prog 33 #[.pointer (some ⟨b, 0, none⟩), .int .u8 x.toNat] w fun e w' => e = .returned .nilIface ∧ Bd w' B b (l ++ [x]) ∧ Below B w w' := by
  have hc := copyCheck_any h
  have H := Lib.hid (And.intro hc hw)
  clear hc h
  go_enter Tryd.func33, Tryd.ntmps33
  go_wp2_with (first
    | (go_at_call 38; refine H.out.1.mono ?_; rintro e w1 ⟨rfl, ⟨v1, hB, hblk, hown, hne⟩, hb1⟩; obtain ⟨A1, c1, rfl, hle, hle', _⟩ := hown.form; have k1 : w1.cell? ⟨b, 1, none⟩ = some (.slice A1 l.length c1) := hblk.cell 1; have H1 := Lib.hid (And.intro hB (And.intro hblk (And.intro hown (And.intro hne hb1)))); clear hB hblk hown hne hb1)
    | ((with_reducible refine at_appendB ?_); refine wpList_append_B rfl (.tmp 11) (.tmp 13) rfl B (.slice A1 l.length c1) l rfl (H1.out.2.2.1.alloc _) (some ⟨w1.heap.size, 0, none⟩) [x] 1 1 rfl rfl (RB.byteB w1 x _ _ rfl) (by simpa using hlen) (by rw [World.size_alloc]; have := H1.out.2.2.2.2.size; have := H.out.2; omega) (l.length + 1) rfl (l ++ [x]) rfl ?_; intro A2 c2 w2 hap; have hba : Blk (w1.alloc (.cells #[.int .u8 x.toNat] 5)) b #[.pointer (some ⟨b, 0, none⟩), .slice A1 l.length c1] 62 := H1.out.2.1.same (Below.heap_alloc _ _ _ H1.out.2.1.lt); have hb2 := hba.same (hap.grown.block b hba.lt (fun e => H1.out.2.2.2.1 e.symm)); have q1 : w2.cell? ⟨b, 1, none⟩ = some (.slice A1 l.length c1) := hb2.cell 1; have f1 := hb2.free 1; have H2 := Lib.hid (And.intro hap hba); clear hap hba hb2))
  go_ret
  obtain ⟨hB, hblk, hown, hne, hb1⟩ := H1.out
  obtain ⟨hap, hba⟩ := H2.out
  have hsz : B ≤ w1.heap.size := by have := H.out.2; have := hb1.size; omega
  exact ⟨rfl, (BdU.put hB hba hne hap.grown hap.own).bd, ((hb1.alloc hsz _).grown hap.grown (by rw [World.size_alloc]; omega) (fun k hk => (hown.lt k hk).1)).setCell (p := ⟨b, 1, none⟩) hB _⟩
/-- String. -/
theorem strB_any {w : World} {B b : Nat} {l : List UInt8} (h : Bd w B b l) (hw : B ≤ w.heap.size) :
    Calls Tryd.prog 35 #[.pointer (some ⟨b, 0, none⟩)] w fun e w' => e = .returned (.string ⟨l.toArray⟩) ∧ Below B w w' := by
  obtain ⟨p, v, hp, hB, hblk, hown, hne⟩ := h
  refine Tryd.Builder_String_any B b l w ?_ hw
  have hat : Lib.BuilderAt 62 5 B b p (Lib.byteCells l) w := ⟨hB, v, hblk, by rw [Lib.byteCells_length]; exact hown, hne⟩
  rcases hp with rfl | rfl
  · exact .inl hat
  · exact .inr hat
end Go.Proofs.YtfnkkjehkegpgaaDoor
