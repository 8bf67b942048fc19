/- The walk of impl.reader: a textproto.Reader over bytes, made. -/
import Derived.Test.YtfnkkjehkegpgaaDoorRdI
import Derived.Deep.OwnRows
namespace Go.Proofs.YtfnkkjehkegpgaaDoor
open Go.RowKit

/-- n bytes, all 0: as cells of a new block. -/
def zeroRow (n : Nat) : Array Value := madeCells #[.int .u8 0] n
theorem zeroRow_get (n i : Nat) (h : i < n) : (zeroRow n)[i]? = some (.int .u8 0) := by
  simp [zeroRow, madeCells, h, Nat.mod_one]
theorem zeroRow_size (n : Nat) : (zeroRow n).size = n := size_madeCells _ _
theorem Tryd.mkB (n : Nat) (h : n ≤ 140737488355328) (w : World) : (Instr.makeSlice 23 (.int .i64 (n : Int)) (.int .i64 (n : Int))).run Tryd.prog w = .ok (.slice (some ⟨w.heap.size, 0, none⟩) n n) (w.alloc (.cells (zeroRow n) 5)) :=
  run_make_row' (P := Tryd.prog) 23 5 (.int .u8 0) 1 Tryd.underlying23 Tryd.infoU rfl .i64 .i64 n (by omega) (by omega) w
theorem Blk.rowB {w : World} {g : Nat} {cs : Array Value} {t : TypeId} (h : Blk w g cs t) {n : Nat} {L : List UInt8} (hl : L.length = n) (hc : ∀ i, i < n → cs[i]? = some (.int .u8 (L.getD i 0).toNat)) : RowB w g n L :=
  ⟨hl, fun i hi => ⟨by rw [Nat.zero_add, h.cell]; exact hc i hi, h.free _⟩⟩
theorem RowB.zero {w : World} {g n : Nat} {t : TypeId} (h : Blk w g (zeroRow n) t) : RowB w g n (List.replicate n 0) :=
  h.rowB (by simp) (fun i hi => by rw [zeroRow_get n i hi]; simp [List.getD_eq_getElem?_getD, hi])
theorem Blk.new (w : World) (cs : Array Value) (t : TypeId) : Blk (w.alloc (.cells cs t)) w.heap.size cs t := by
  unfold Blk; exact heap_alloc_new w _
theorem Blk.alloc {w : World} {g : Nat} {cs : Array Value} {t : TypeId} (h : Blk w g cs t) (o : Obj) : Blk (w.alloc o) g cs t := h.same (Below.heap_alloc w o g h.lt)

theorem newBytesReader_any {w : World} {A : Option Addr} {n c : Nat} :
    Calls Tryd.prog 28 #[.slice A n c] w fun e w' => e = .returned (.pointer (some ⟨w.heap.size, 0, none⟩)) ∧ w' = w.alloc (.cells #[.slice A n c, .int .i64 0, .int .i64 (-1)] 82) := by
  go_enter Tryd.func28, Tryd.ntmps28
  go_wp2
  go_ret
  exact ⟨rfl, rfl⟩
theorem newTpReader_any {w : World} {p : Nat} :
    Calls Tryd.prog 26 #[.pointer (some ⟨p, 0, none⟩)] w fun e w' => e = .returned (.pointer (some ⟨w.heap.size, 0, none⟩)) ∧ w' = w.alloc (.cells #[.pointer (some ⟨p, 0, none⟩), .pointer none, .slice none 0 0] 76) := by
  go_enter Tryd.func26, Tryd.ntmps26
  go_wp2
  go_ret
  exact ⟨rfl, rfl⟩
/-- What a new bufio.Reader is. -/
def NewRd (rd : Value) (w : World) (e : Ending) (w' : World) : Prop :=
  e = .returned (.pointer (some ⟨w.heap.size, 0, none⟩)) ∧ Blk w' w.heap.size #[.slice (some ⟨w.heap.size + 1, 0, none⟩) 4096 4096, rd, .int .i64 0, .int .i64 0, .nilIface, .int .i64 (-1), .int .i64 (-1)] 89 ∧
    Blk w' (w.heap.size + 1) (zeroRow 4096) 5 ∧ Below w.heap.size w w' ∧ w'.heap.size = w.heap.size + 2
theorem assertB (v : Value) (w : World) : (Instr.typeAssert (.iface 57 v) 79 55 true).run Tryd.prog w = .ok (.tuple #[.pointer none, .bool false]) w :=
  run_assert_not Tryd.underlying55 (fun _ h => by cases h) (by decide) (by kernel_rfl) w
set_option maxRecDepth 200000 in
theorem newReaderB {w : World} {q : Nat} :
    Calls Tryd.prog 27 #[.iface 57 (.pointer (some ⟨q, 0, none⟩))] w (NewRd (.iface 57 (.pointer (some ⟨q, 0, none⟩))) w) := by
  have hmk : ∀ w, (Instr.makeSlice 23 (.int .i64 4096) (.int .i64 4096)).run Tryd.prog w = .ok (.slice (some ⟨w.heap.size, 0, none⟩) 4096 4096) (w.alloc (.cells (zeroRow 4096) 5)) := fun w => Tryd.mkB 4096 (by decide) w
  have ha := fun v w => assertB v w
  have hmx : max (4096 : Int) 16 = 4096 := by decide
  go_enter Tryd.func27, Tryd.ntmps27
  go_wp2
  go_ret
  have h2 := Blk.new (w.alloc (.cells #[.slice (some ⟨w.heap.size + 1, 0, none⟩) 4096 4096, .iface 57 (.pointer (some ⟨q, 0, none⟩)), .int .i64 0, .int .i64 0, .nilIface, .int .i64 (-1), .int .i64 (-1)] 89)) (zeroRow 4096) 5
  rw [World.size_alloc] at h2
  exact ⟨rfl, (Blk.new w _ _).alloc _, h2, ((Below.refl _ _).alloc (Nat.le_refl _) _).alloc (by simp) _, by simp⟩
theorem Sens.base {w : World} {E : Nat → Addr} {gs : List Nat} (h : Sens w E gs) : SensB w.heap.size w E gs := ⟨h, fun g hg => ⟨(h.sen g hg).lt, (h.sen g hg).lt'⟩⟩
/-- What impl.reader leaves. -/
def Made (E : Nat → Addr) (gs : List Nat) (S : List UInt8) (w : World) (e : Ending) (w' : World) : Prop :=
  ∃ (q sb t p bb : Nat), e = .returned (.pointer (some ⟨t, 0, none⟩)) ∧ sb ≠ q ∧ Tp (KB q sb) w.heap.size E gs t p bb (.slice none 0 0) w' S ∧ Below w.heap.size w w'
set_option maxRecDepth 200000 in
theorem reader_any {w : World} {E : Nat → Addr} {gs : List Nat} (hs : Sens w E gs) {A : Option Addr} {n c : Nat} {S : List UInt8} (hn : n = S.length) (hr : RB w A S) (hS : S.length ≤ 140737488355328) :
    Calls Tryd.prog 20 #[.slice A n c] w (Made E gs S w) := by
  have HR := Lib.hid (And.intro hr hs)
  clear hr hs
  subst hn
  go_enter Tryd.func20, Tryd.ntmps20
  go_wp2_with (first
    | (with_reducible refine at_appendB ?_; refine wpList_append_B rfl (.tmp 3) (.tmp 4) rfl w.heap.size (.slice (some ⟨w.heap.size, 0, none⟩) 0 0) [] rfl (OB.lit' rfl (Nat.le_refl _)) A S S.length c rfl rfl (HR.out.1.below ((Below.refl _ _).alloc (Nat.le_refl _) _)) (by simp; omega) (by simp) S.length (by simp) S rfl ?_; intro A3 c3 w1 hap; have HP := Lib.hid hap; clear hap)
    | (go_at_call 28; refine newBytesReader_any.mono ?_; rintro e w2 ⟨rfl, hw2⟩; have HW2 := Lib.hid hw2; clear hw2)
    | (go_at_call 27; refine newReaderB.mono ?_; rintro e w3 ⟨rfl, h3a, h3b, h3c, h3d⟩; have HW3 := Lib.hid (And.intro h3a (And.intro h3b (And.intro h3c h3d))); clear h3a h3b h3c h3d)
    | (go_at_call 26; refine newTpReader_any.mono ?_; rintro e w4 ⟨rfl, hw4⟩; have HW4 := Lib.hid hw4; clear hw4))
  go_ret
  have hap := HP.out
  have hb1 : Below w.heap.size w w1 := ((Below.refl _ _).alloc (Nat.le_refl _) _).grown hap.grown (by simp) (by simp [Value.ownBlock])
  have hs2 : w2.heap.size = w1.heap.size + 1 := by rw [HW2.out, World.size_alloc]
  have hs4 : w4.heap.size = w3.heap.size + 1 := by rw [HW4.out, World.size_alloc]
  obtain ⟨h3a, h3b, h3c, h3d⟩ := HW3.out
  have hA3 : ∃ a, A3 = some a := by
    rcases A3 with _ | a
    · have := hap.at_
      simp [Value.ownBlock] at this
    · exact ⟨a, rfl⟩
  obtain ⟨a, rfl⟩ := hA3
  have hpl := hap.own.place a rfl
  have halt : a.block < w1.heap.size := by
    have := hap.own.lt a.block (by rfl)
    exact this.2
  have hsz := hb1.size
  have b2 : Below w1.heap.size w1 w2 := by rw [HW2.out]; exact (Below.refl _ _).alloc (Nat.le_refl _) _
  have b4 : Below w3.heap.size w3 w4 := by rw [HW4.out]; exact (Below.refl _ _).alloc (Nat.le_refl _) _
  have k4 : Blk w4 w3.heap.size #[.pointer (some ⟨w2.heap.size, 0, none⟩), .pointer none, .slice none 0 0] 76 := by rw [HW4.out]; exact Blk.new _ _ _
  have k2 : Blk w2 w1.heap.size #[.slice (some a) S.length c3, .int .i64 0, .int .i64 (-1)] 82 := by rw [HW2.out]; exact Blk.new _ _ _
  have b14 : Below w1.heap.size w1 w4 := (b2.trans (h3c.mono (by omega))).trans (b4.mono (by omega))
  have b24 : Below w2.heap.size w2 w4 := h3c.trans (b4.mono (by omega))
  refine ⟨w1.heap.size, a.block, w3.heap.size, w2.heap.size, w2.heap.size + 1, rfl, by omega, ⟨by omega, ?_, k4, [], S, 0, false, -1, -1, ?_, rfl⟩, hb1.trans (b14.mono hsz)⟩
  · intro hk
    rcases hk with hk | hk | hk | hk <;> omega
  · refine ⟨⟨by omega, fun hk => by rcases hk with hk | hk <;> omega, fun hk => by rcases hk with hk | hk <;> omega, by omega, by omega, fun k hk => by rcases hk with rfl | rfl; omega; exact hpl.2⟩, ?_, ⟨_, (RowB.zero h3b).same (b4.block _ (by omega)), by simp⟩, by simp, ?_, (fun e => by cases e), HR.out.2.base.below (hb1.trans (b14.mono hsz))⟩
    · exact h3a.same (b4.block _ (by omega))
    · refine ⟨some a, S.length, c3, 0, S, -1, k2.same (b24.block _ (by omega)), hap.read.below b14, ?_, ?_, rfl, ?_, hap.le', Nat.zero_le _, rfl⟩
      · intro g o e; cases e; rfl
      · have := b14.size; omega
      · exact hap.le
end Go.Proofs.YtfnkkjehkegpgaaDoor
