/- Small methods of a bufio.Reader: readErr, Buffered; and IndexByte, as a law on lists. -/
import Derived.Test.YtfnkkjehkegpgaaDoorRdC
import Derived.Test.YtfnkkjehkegpgaaDoorShelf
namespace Go.Proofs.YtfnkkjehkegpgaaDoor
open Go.RowKit

section
variable {K : Und} {base p bb : Nat} {E : Nat → Addr} {gs : List Nat} {w : World} {B U : List UInt8} {r : Nat} {z : Bool} {lb lr : Int}
theorem buffered_any (h : Rd K base E gs p bb w B U r z lb lr) :
    Calls Tryd.prog 41 #[.pointer (some ⟨p, 0, none⟩)] w fun e w' => e = .returned (.int .i64 B.length) ∧ ∃ m, w' = w.drewN m := by
  obtain ⟨n, hn⟩ : ∃ n : Nat, n = r + B.length := ⟨_, rfl⟩
  have c2 := h.c.c2
  have c3 := h.c.c3
  have hle := h.le
  rw [← hn] at c3
  have hb : ((n : Int) - (r : Int)) = (B.length : Int) := by omega
  have h1 : (r : Int) ≤ (n : Int) := by omega
  have h2 : (n : Int) ≤ 4096 := by omega
  have hN := Lib.hid (And.intro hn hb)
  clear hn hb hle h
  go_enter Tryd.func41, Tryd.ntmps41
  go_wp2
  go_quiet (fail)
  go_wp2
  go_ret
  refine ⟨?_, _, rfl⟩
  rw [← hN.out.2]
  rfl
end
theorem bytesOf_nums (l : List UInt8) : Lib.bytesOf (l.map fun b => (b.toNat : Int)) = l := by
  unfold Lib.bytesOf
  rw [List.map_map]
  conv => rhs; rw [← List.map_id l]
  refine List.map_congr_left fun b _ => ?_
  show UInt8.ofNat ((b.toNat : Int)).toNat = b
  rw [Int.toNat_natCast]
  exact UInt8.ofNat_toNat
/-- bytes.IndexByte of what a slice reads as. -/
theorem indexByte_any {w : World} {g o : Nat} {l : List UInt8} {c : Nat} (hr : RB w (some ⟨g, o, none⟩) l) (b : UInt8) :
    Calls Tryd.prog 58 #[.slice (some ⟨g, o, none⟩) l.length c, .int .u8 b.toNat] w fun e w' => e = .returned (.int .i64 (Lib.indexByte l b)) ∧ w' = w := by
  have := Tryd.bytes_IndexByte g o l.length c (l.map fun b => (b.toNat : Int)) b.toNat w (by simp) (fun i hi => by
    have hne : l ≠ [] := by rintro rfl; simp at hi
    obtain ⟨g', o', he, hx⟩ := hr hne
    injection he with he
    injection he with h1 h2
    subst h1; subst h2
    rw [hx i l[i] (List.getElem?_eq_getElem hi)]
    simp [List.getD_eq_getElem?_getD, List.getElem?_eq_getElem hi])
  rw [bytesOf_nums] at this
  rw [show (b.toNat : Int).toNat.toUInt8 = b by rw [Int.toNat_natCast]; exact UInt8.ofNat_toNat] at this
  exact this
theorem indexByte_none {l : List UInt8} {b : UInt8} : Lib.indexByte l b = -1 ↔ b ∉ l := by
  induction l with
  | nil => simp [Lib.indexByte]
  | cons x t ih =>
    have := Lib.indexByte_ge t b
    unfold Lib.indexByte
    by_cases hx : x = b
    · subst hx; simp
    · rw [if_neg (by simpa using hx)]
      by_cases ht : Lib.indexByte t b = -1
      · rw [if_pos (by simpa using ht)]
        simp [ih.1 ht, Ne.symm hx]
      · rw [if_neg (by simpa using ht)]
        constructor
        · intro h; omega
        · intro h
          exfalso
          exact ht (ih.2 (fun hm => h (List.mem_cons_of_mem _ hm)))
theorem indexByte_app {a t : List UInt8} {b : UInt8} (h : b ∉ a) : Lib.indexByte (a ++ b :: t) b = a.length := by
  induction a with
  | nil => simp [Lib.indexByte]
  | cons x r ih =>
    rw [List.mem_cons, not_or] at h
    rw [List.cons_append]
    unfold Lib.indexByte
    rw [if_neg (by simpa using Ne.symm h.1), ih h.2, if_neg (by simp)]
    simp
end Go.Proofs.YtfnkkjehkegpgaaDoor
