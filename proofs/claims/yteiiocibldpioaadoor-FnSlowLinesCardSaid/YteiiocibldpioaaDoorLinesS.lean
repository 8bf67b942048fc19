/- The walk of impl.SlowLines. -/
import Derived.Test.YteiiocibldpioaaDoorLinesW
import Derived.Test.YteiiocibldpioaaDoorRdSf
namespace Go.Proofs.YteiiocibldpioaaDoor
open Go.RowKit

theorem assertS (v : Value) (w : World) : (Instr.typeAssert (.iface 91 v) 78 89 true).run Tryd.prog w = .ok (.tuple #[.pointer none, .bool false]) w :=
  run_assert_not Tryd.underlying89 (fun _ h => by cases h) (by decide) (by kernel_rfl) w
set_option maxRecDepth 200000 in
theorem newReaderS {w : World} {q : Nat} :
    Calls Tryd.prog 52 #[.iface 91 (.pointer (some ⟨q, 0, none⟩))] w (NewRd (.iface 91 (.pointer (some ⟨q, 0, none⟩))) w) := by
  have hmk : ∀ w, (Instr.makeSlice 24 (.int .i64 4096) (.int .i64 4096)).run Tryd.prog w = .ok (.slice (some ⟨w.heap.size, 0, none⟩) 4096 4096) (w.alloc (.cells (zeroRow 4096) 5)) := fun w => Tryd.mkB 4096 (by decide) w
  have ha := fun v w => assertS v w
  have hmx : max (4096 : Int) 16 = 4096 := by decide
  go_enter Tryd.func52, Tryd.ntmps52
  go_wp2
  go_ret
  have h2 := Blk.new (w.alloc (.cells #[.slice (some ⟨w.heap.size + 1, 0, none⟩) 4096 4096, .iface 91 (.pointer (some ⟨q, 0, none⟩)), .int .i64 0, .int .i64 0, .nilIface, .int .i64 (-1), .int .i64 (-1)] 124)) (zeroRow 4096) 5
  rw [World.size_alloc] at h2
  exact ⟨rfl, (Blk.new w _ _).alloc _, h2, ((Below.refl _ _).alloc (Nat.le_refl _) _).alloc (by simp) _, by simp⟩
set_option maxRecDepth 200000 in
set_option maxHeartbeats 1000000 in
theorem implSlow_any {w : World} {E : Nat → Addr} {gs : List Nat} (hs : Sens w E gs) (hg : 1 ∈ gs) (hk : 2 ∈ gs) (hf : 5 ∈ gs) {A : Option Addr} {n c : Nat} {S : List UInt8} (hn : n = S.length) (hr : RB w A S) (hS : S.length ≤ 16777216) (x : Int) (_hx : x ≤ 9223372036854775807) :
    Calls Tryd.prog 30 #[.slice A n c, .int .i64 x] w (LinesEnd S w) := by
  obtain ⟨pc, hpc⟩ : ∃ pc : Nat, (pc : Int) = max 1 x := ⟨(max 1 x).toNat, by omega⟩
  have hmx1 : max (1 : Int) x = (pc : Int) := hpc.symm
  have hmx2 : (if 1 < x then x else 1) = (pc : Int) := by split <;> omega
  have hpc0 : 0 < pc := by omega
  have HR := Lib.hid (And.intro hr hs)
  subst hn
  clear hr hs hpc
  go_enter Tryd.func30, Tryd.ntmps30
  go_wp2_with (first
    | ((with_reducible refine at_appendB ?_); refine wpList_append_B rfl (.tmp 10) (.tmp 11) rfl w.heap.size (.slice (some ⟨w.heap.size, 0, none⟩) 0 0) [] rfl (OB.lit' rfl (Nat.le_refl _)) A S S.length c rfl rfl (HR.out.1.below ((Below.refl _ _).alloc (Nat.le_refl _) _)) (by simp; omega) (by simp) S.length (by simp) S rfl ?_; intro A3 c3 w0 hap; have HP := Lib.hid hap; clear hap)
    | (go_at_call 52; refine newReaderS.mono ?_; rintro e w3 ⟨rfl, h3a, h3b, h3c, h3d⟩; have HW3 := Lib.hid (And.intro h3a (And.intro h3b (And.intro h3c h3d))); clear h3a h3b h3c h3d)
    | (go_at_call 51; refine newTpReader_any.mono ?_; rintro e w4 ⟨rfl, hw4⟩; have HW4 := Lib.hid hw4; clear hw4; refine Hid.out ?_))
  refine Lib.hid ?_
  have hmade : ∃ q sb t p bb, w3.heap.size = t ∧ sb ≠ q ∧ Tp (KS q sb pc) w.heap.size E gs t p bb (.slice none 0 0) w4 S ∧ Below w.heap.size w w4 := by
    have hap := HP.out
    have hb1 : Below w.heap.size w w0 := ((Below.refl _ _).alloc (Nat.le_refl _) _).grown hap.grown (by simp) (by simp [Value.ownBlock])
    obtain ⟨h3a, h3b, h3c, h3d⟩ := HW3.out
    obtain ⟨w2, hw2⟩ : ∃ w2, w2 = w0.alloc (.cells #[.slice A3 S.length c3, .int .i64 pc] 93) := ⟨_, rfl⟩
    rw [← hw2] at h3a h3b h3c h3d
    have hs2 : w2.heap.size = w0.heap.size + 1 := by rw [hw2, World.size_alloc]
    have hA3 : ∃ a, A3 = some a := by
      rcases A3 with _ | a
      · have := hap.at_
        simp [Value.ownBlock] at this
      · exact ⟨a, rfl⟩
    obtain ⟨a, rfl⟩ := hA3
    have hpl := hap.own.place a rfl
    have halt : a.block < w0.heap.size := (hap.own.lt a.block (by rfl)).2
    have hsz := hb1.size
    have b2 : Below w0.heap.size w0 w2 := by rw [hw2]; exact (Below.refl _ _).alloc (Nat.le_refl _) _
    have b4 : Below w3.heap.size w3 w4 := by rw [HW4.out]; exact (Below.refl _ _).alloc (Nat.le_refl _) _
    have k4 : Blk w4 w3.heap.size #[.pointer (some ⟨w2.heap.size, 0, none⟩), .pointer none, .slice none 0 0] 111 := by rw [HW4.out, hs2]; exact Blk.new _ _ _
    have k2 : Blk w2 w0.heap.size #[.slice (some a) S.length c3, .int .i64 pc] 93 := by rw [hw2]; exact Blk.new _ _ _
    have b14 : Below w0.heap.size w0 w4 := (b2.trans (h3c.mono (by omega))).trans (b4.mono (by omega))
    have b24 : Below w2.heap.size w2 w4 := h3c.trans (b4.mono (by omega))
    refine ⟨w0.heap.size, a.block, w3.heap.size, w2.heap.size, w2.heap.size + 1, rfl, by omega, ⟨by omega, ?_, k4, [], S, 0, false, -1, -1, ?_, rfl⟩, hb1.trans (b14.mono hsz)⟩
    · intro hk
      rcases hk with hk | hk | hk | hk <;> omega
    · refine ⟨⟨by omega, fun hk => by rcases hk with hk | hk <;> omega, fun hk => by rcases hk with hk | hk <;> omega, by omega, by omega, fun k hk => by rcases hk with rfl | rfl; omega; exact hpl.2⟩, ?_, ⟨_, (RowB.zero h3b).same (b4.block _ (by omega)), by simp⟩, by simp, ?_, (fun e => by cases e), HR.out.2.base.below (hb1.trans (b14.mono hsz))⟩
      · exact h3a.same (b4.block _ (by omega))
      · refine ⟨some a, c3, k2.same (b24.block _ (by omega)), hap.read.below b14, ?_, ?_, hap.le, hap.le'⟩
        · intro g o e; cases e; rfl
        · have := b14.size; omega
  obtain ⟨q, sb, t, p, bb, ht, hqs, hT1, hb1⟩ := hmade
  rw [ht]
  have H1 := Lib.hid (And.intro hqs (And.intro hT1 hb1))
  clear HP HW3 HW4 ht hqs hT1 hb1
  go_wp2
  go_loopg [6, 8, 9] (S.length + 1) (fun k u4 _ _ wr => LinesRel (KS q sb pc) w.heap.size E gs t p bb (.slice none 0 0) w4.heap.size S w k u4 wr)
  case atStart =>
    obtain ⟨hqs, hT1, hb1⟩ := H1.out
    exact ⟨[], S, OS.nil _ _, hT1, Nat.le_refl _, fun ls h => h, by simp, fun l h => (by cases h), hb1, Nat.le_refl _⟩
  case round =>
    obtain ⟨acc, S1, hown, hT, hgk, hcont, hsz, hlen, hb, hM⟩ := hrel
    obtain ⟨A0, c0, hu0, _, _, _⟩ := hown.form
    subst hu0
    have hrl := tReadLine (fillS q sb pc H1.out.1 hpc0) hT hg hf (by omega)
    have HD := Lib.hid hrl
    have HK := Lib.hid (And.intro hown (And.intro hT (And.intro hgk (And.intro hcont (And.intro hsz (And.intro hlen (And.intro hb hM)))))))
    clear hrl hown hT hgk hcont hsz hlen hb hM
    go_wp2_with (go_at_call 50; refine HD.out.mono ?_; rintro e w2 ⟨l, er, S2, rfl, hsay, hT2, hC2⟩; have H2 := Lib.hid (And.intro hsay (And.intro hT2 hC2)); clear hT2 hC2; rcases hsay.er with rfl | rfl <;> clear hsay <;> refine Hid.out ?_)
    · refine Lib.hid ?_
      simp only [Er.val]
      obtain ⟨hown, hT, hgk, hcont, hsz, hlen, hb, hM⟩ := HK.out
      obtain ⟨hsay, hT2, hC2⟩ := H2.out
      have hlt := hsay.lt rfl
      have hown2 : OS w2 w4.heap.size (.slice A0 acc.length c0) acc := hown.of_blocks (fun k hk hkl => hC2.block k hkl (fun e => by have := (hown.lt k hk).1; have := H1.out.2.1.S_lt k e; omega))
      have hM2 : w4.heap.size ≤ w2.heap.size := Nat.le_trans hM hC2.size
      have hal : (acc.length + 1) * 16 ≤ 140737488355328 := by omega
      have HA := Lib.hid (And.intro hown2 (And.intro hM2 (And.intro hlt hal)))
      clear hown hT hgk hcont hsz hlen hb hM hsay hT2 hC2 hlt hown2 hM2 hal
      go_wp2_with ((with_reducible refine at_appendS ?_); refine wpList_append_S rfl (.tmp 30) (.tmp 32) 28 Tryd.underlying28 rfl w4.heap.size (.slice A0 acc.length c0) acc rfl (HA.out.1.alloc _) (some ⟨w2.heap.size, 0, none⟩) [l] 1 1 rfl rfl (SL.one' _ _ _ _ rfl) HA.out.2.2.2 (by simp; have := HA.out.2.1; omega) (acc.length + 1) rfl (acc ++ [l]) rfl ?_; intro A3 c3 w3 hap; have HP := Lib.hid hap; clear hap)
      obtain ⟨hown, hT, hgk, hcont, hsz, hlen, hb, hM⟩ := HK.out
      obtain ⟨hsay, hT2, hC2⟩ := H2.out
      have hap := HP.out
      have hlt := HA.out.2.2.1
      have hb3 : Below w4.heap.size w2 w3 := ((Below.refl _ _).alloc HA.out.2.1 _).trans (hap.below (HA.out.1.alloc _) (by simp; have := HA.out.2.1; omega))
      go_roundg (S2.length + 1)
      case measure => omega
      case rel =>
        refine ⟨acc ++ [l], S2, hap.own, hT2.belowN hb3 (fun k hk => H1.out.2.1.S_lt k hk) H1.out.2.1.t_lt, Nat.le_refl _, fun ls h => ?_, ?_, fun x hx => ?_, (hb.trans (hT.frame hC2)).trans (hb3.mono H1.out.2.2.size), ?_⟩
        · have := hcont _ (.go hsay h)
          rwa [List.append_assoc]
        · simp; omega
        · rcases List.mem_append.1 hx with hx | hx
          · exact hlen x hx
          · simp at hx; subst hx; omega
        · have := hb3.size; have := HA.out.2.1; omega
    · refine Lib.hid ?_
      have hst := fun (w : World) (h : Sens w E gs) => state_any w h hg hk (.sent 1) hg
      have HS := Lib.hid hst
      clear hst
      simp only [Er.val]
      go_wp2_with (go_at_call 47; refine (HS.out _ H2.out.2.1.sens.s).mono ?_; rintro e w3 ⟨rfl, rfl⟩)
      go_ret2
      obtain ⟨hown, hT, hgk, hcont, hsz, hlen, hb, hM⟩ := HK.out
      obtain ⟨hsay, hT2, hC2⟩ := H2.out
      have hown2 : OS w2 w4.heap.size (.slice A0 acc.length c0) acc := hown.of_blocks (fun k hk hkl => hC2.block k hkl (fun e => by have := (hown.lt k hk).1; have := H1.out.2.1.S_lt k e; omega))
      obtain ⟨A4, c4, h4, _, _, hsl⟩ := hown2.form
      injection h4 with h4 _ _
      subst h4
      refine ⟨acc, A0, c0, rfl, ?_, hsl, by omega, hlen, hb.trans (hT.frame hC2)⟩
      have := hcont _ (.stop hsay (fun e => by cases e))
      rwa [List.append_nil] at this
end Go.Proofs.YteiiocibldpioaaDoor
