/- The walk of DotReader: a dot reader is opened. -/
import Derived.Test.YteiiocibldpioaaDoorRdW
import Derived.Test.YteiiocibldpioaaDoorLinesW
import Derived.Test.YteiiocibldpioaaDoorRdU
namespace Go.Proofs.YteiiocibldpioaaDoor
open Go.RowKit

set_option maxRecDepth 200000 in
theorem dotReader_any {K : Und} {base t p bb : Nat} {E : Nat → Addr} {gs : List Nat} {buf : Value} {w : World} {S : List UInt8} (h : Tp K base E gs t p bb buf w S) :
    Calls Tryd.prog 46 #[.pointer (some ⟨t, 0, none⟩)] w fun e w' => e = .returned (.iface 107 (.pointer (some ⟨w.heap.size, 0, none⟩))) ∧ Dt K base E gs t p bb w.heap.size buf 0 w' S ∧ Chg (fun k => k = t) w w' := by
  have hT := h.2.2.1
  have hcl := closeDot_nil hT
  have c1 := hT.c1
  have f1 := hT.f 1
  have c1' : ∀ o, (w.alloc o).cell? ⟨t, 1, none⟩ = some (.pointer none) := fun o => (hT.same (Below.heap_alloc w o t hT.lt)).c1
  have f1' : ∀ o, (w.alloc o).frozen? ⟨t, 1, none⟩ = false := fun o => (hT.same (Below.heap_alloc w o t hT.lt)).f 1
  have ht : ¬ t = w.heap.size := by have := hT.lt; omega
  have H := Lib.hid (And.intro h hcl)
  clear h hT hcl c1 f1
  go_enter Tryd.func46, Tryd.ntmps46
  go_wp2_with (go_at_call 61; refine H.out.2.mono ?_; rintro e w1 ⟨rfl, rfl⟩)
  go_ret
  have h := H.out.1
  have hT := h.2.2.1
  have hb1 : Below w.heap.size w (w.alloc (.cells #[.pointer (some ⟨t, 0, none⟩), .int .i64 0] 109)) := (Below.refl _ _).alloc (Nat.le_refl _) _
  have k1 := Blk.new w #[.pointer (some ⟨t, 0, none⟩), .int .i64 0] 109
  have hT1 : TpC (w.alloc (.cells #[.pointer (some ⟨t, 0, none⟩), .int .i64 0] 109)) t p (.pointer none) buf := hT.same (hb1.block t hT.lt)
  have hr1 := (show Rs K base E gs p bb w S from h.2.2.2).below hb1 h.S_lt
  have N2 : ∀ k, k ≠ t → ((w.alloc (.cells #[.pointer (some ⟨t, 0, none⟩), .int .i64 0] 109)).setCell ⟨t, 1, none⟩ (.pointer (some ⟨w.heap.size, 0, none⟩))).heap[k]? = (w.alloc (.cells #[.pointer (some ⟨t, 0, none⟩), .int .i64 0] 109)).heap[k]? := fun k hk => Below.heap_setCell _ _ _ _ hk
  refine ⟨rfl, ⟨h.1, h.size, ht, h.2.1, fun e => by have := h.S_lt _ e; omega, Blk.set hT1 1 _, k1.same (N2 _ (Ne.symm ht)), hr1.blocks (fun k hk => N2 k (fun e => h.2.1 (e ▸ hk))) ((Below.refl _ _).setCell (p := ⟨t, 1, none⟩) h.1 _)⟩, ((Chg.refl (fun k => k = t) w).alloc _).setCell (p := ⟨t, 1, none⟩) (fun _ => rfl) _⟩
end Go.Proofs.YteiiocibldpioaaDoor
