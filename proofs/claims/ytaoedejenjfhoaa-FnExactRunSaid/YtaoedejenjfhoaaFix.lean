/- The plain law of a key's canonical form: no program. fix: what becomes of one byte; upAt: whether a capital is wanted at a place; canonL: the key in canonical form. -/
import Derived.Test.YtaoedejenjfhoaaBytes
namespace Go.Proofs.Ytaoedejenjfhoaa
open Go.RowKit

def lowB (n : Int) : Bool := decide (97 ≤ n) && decide (n ≤ 122)
def capB (n : Int) : Bool := decide (65 ≤ n) && decide (n ≤ 90)
/-- What a byte becomes. -/
def fixN (up : Bool) (n : Int) : Int := if up && lowB n then n - 32 else if !up && capB n then n + 32 else n
def fix (up : Bool) (b : UInt8) : UInt8 := UInt8.ofNat (fixN up b.toNat).toNat
/-- Is a capital wanted at place k? -/
def upAt (l : List UInt8) (k : Nat) : Bool := k == 0 || l[k - 1]? == some 45
def canonL (l : List UInt8) : List UInt8 := l.mapIdx (fun j b => fix (upAt l j) b)
def keyB (l : List UInt8) : Bool := l.all (fun b => fieldB b.toNat)
/-- The key's canonical form; another text as it stands. -/
def canonOf (l : List UInt8) : List UInt8 := if keyB l then canonL l else l

theorem fixN_lo (up : Bool) (n : Int) (h : 0 ≤ n) : 0 ≤ fixN up n := by
  unfold fixN lowB capB; split
  · rename_i hh; simp at hh; omega
  · split <;> omega
theorem fixN_hi (up : Bool) (n : Int) (h : n ≤ 255) : fixN up n ≤ 255 := by
  unfold fixN lowB capB; split
  · omega
  · split
    · rename_i hh; simp at hh; omega
    · omega
theorem fix_toNat (up : Bool) (b : UInt8) : ((fix up b).toNat : Int) = fixN up b.toNat := by
  have h0 := fixN_lo up b.toNat (by omega)
  have h1 := fixN_hi up b.toNat (byte_le b)
  unfold fix
  rw [UInt8.toNat_ofNat']
  omega
theorem fixN_45 (up : Bool) (n : Int) : fixN up n = 45 ↔ n = 45 := by
  unfold fixN lowB capB; split
  · rename_i hh; simp at hh; omega
  · split
    · rename_i hh; simp at hh; omega
    · omega
theorem fix_45 (up : Bool) (b : UInt8) : ((fix up b).toNat : Int) = 45 ↔ (b.toNat : Int) = 45 := by
  rw [fix_toNat, fixN_45]
theorem byte45 (b : UInt8) : (b.toNat : Int) = 45 ↔ b = 45 := by
  have := byte_eq_iff b 45
  simpa using this

theorem upAt_zero (l : List UInt8) : upAt l 0 = true := by simp [upAt]
theorem upAt_succ (l : List UInt8) (k : Nat) (h : k < l.length) : upAt l (k + 1) = ((l[k].toNat : Int) == 45) := by
  rw [Bool.eq_iff_iff]
  simp [upAt, List.getElem?_eq_getElem h, byte45]
theorem canonL_length (l : List UInt8) : (canonL l).length = l.length := by simp [canonL]
theorem canonL_get (l : List UInt8) (k : Nat) (h : k < l.length) : (canonL l)[k]'(by rw [canonL_length]; exact h) = fix (upAt l k) l[k] := by simp [canonL]
theorem canonL_get? (l : List UInt8) (k : Nat) (h : k < l.length) : (canonL l)[k]? = some (fix (upAt l k) l[k]) := by
  rw [List.getElem?_eq_getElem (by rw [canonL_length]; exact h), canonL_get l k h]
theorem canonL_same {l : List UInt8} (h : ∀ k (hk : k < l.length), fix (upAt l k) l[k] = l[k]) : canonL l = l := by
  apply List.ext_getElem (canonL_length l)
  intro k h1 h2
  rw [canonL_get l k h2, h k h2]
theorem keyB_take_succ (l : List UInt8) (k : Nat) (h : k < l.length) : keyB (l.take (k + 1)) = (keyB (l.take k) && fieldB l[k].toNat) := by
  unfold keyB; rw [List.take_succ_eq_append_getElem h, List.all_append]; simp
theorem keyB_all {l : List UInt8} (k : Nat) (h : k < l.length) (hk : keyB l = true) : fieldB l[k].toNat = true :=
  List.all_eq_true.1 hk _ (List.getElem_mem _)
theorem keyB_no {l : List UInt8} (k : Nat) (h : k < l.length) (hk : fieldB l[k].toNat = false) : keyB l = false := by
  rcases hb : keyB l with _ | _
  · rfl
  · rw [keyB_all k h hb] at hk; cases hk
theorem fieldB_no_32 : fieldB 32 = false := by decide +kernel
theorem fixN_same {up : Bool} {n : Int} (h1 : (up && lowB n) = false) (h2 : (!up && capB n) = false) : fixN up n = n := by
  unfold fixN; rw [h1, h2]; rfl
theorem fix_same {up : Bool} {b : UInt8} (h1 : (up && lowB b.toNat) = false) (h2 : (!up && capB b.toNat) = false) : fix up b = b := by
  apply UInt8.toNat_inj.1
  have := fix_toNat up b
  rw [fixN_same h1 h2] at this
  omega
end Go.Proofs.Ytaoedejenjfhoaa
