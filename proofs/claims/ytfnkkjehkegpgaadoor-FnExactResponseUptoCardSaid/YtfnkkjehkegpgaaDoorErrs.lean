/- The error values of this program, and which number the function 'state' gives to each. -/
import Derived.Test.YtfnkkjehkegpgaaDoorSent
import Derived.WalkArith
namespace Go.Proofs.YtfnkkjehkegpgaaDoor
open Go.RowKit

/-- nil; a sentinel; an error of the protocol; an error of a status. -/
inductive Er | nil | sent (g : Nat) | proto (s : ByteArray) | stat (a : Addr)
def Er.val (E : Nat → Addr) : Er → Value
  | .nil => .nilIface
  | .sent g => .iface 118 (.pointer (some (E g)))
  | .proto s => .iface 73 (.string s)
  | .stat a => .iface 70 (.pointer (some a))
def Er.in (gs : List Nat) : Er → Prop
  | .sent g => g ∈ gs
  | _ => True
/-- 0 fine, 1 the end, 2 cut, 3 an error of the protocol, 4 a status, 5 another. -/
def Er.num : Er → Int
  | .nil => 0
  | .sent g => if g = 0 then 1 else if g = 1 then 2 else 5
  | .proto _ => 3
  | .stat _ => 4

theorem Tryd.es_info : ∃ i, Tryd.prog.info? 118 = some i ∧ i.comparable = true := Option.map_eq_some_iff.1 (show (Tryd.prog.info? 118).map (·.comparable) = some true by kernel_rfl)
theorem Tryd.es_info' : ∃ i, Tryd.prog.info? 120 = some i ∧ decide (i.size ≠ 0) = true := Option.map_eq_some_iff.1 (show (Tryd.prog.info? 120).map (fun i => decide (i.size ≠ 0)) = some true by kernel_rfl)
theorem es_same (E : Nat → Addr) (g : Nat) (w : World) : (binOp .eql 47 (.iface 118 (.pointer (some (E g)))) (.iface 118 (.pointer (some (E g))))).run Tryd.prog w = .ok (.bool true) w := by
  obtain ⟨i, hi, hc⟩ := Tryd.es_info
  obtain ⟨j, hj, _⟩ := Tryd.es_info'
  exact run_eql_iface_ptr_same w (E g) Tryd.es_ti Tryd.underlying118 hi hc hj
theorem es_other {E : Nat → Addr} {gs : List Nat} {w : World} (h : Sens w E gs) {g k : Nat} (hg : g ∈ gs) (hk : k ∈ gs) (hne : g ≠ k) :
    (binOp .eql 47 (.iface 118 (.pointer (some (E g)))) (.iface 118 (.pointer (some (E k))))).run Tryd.prog w = .ok (.bool false) w := by
  obtain ⟨c, t, h1⟩ := (h.sen g hg).row
  obtain ⟨c', t', h2⟩ := (h.sen k hk).row
  obtain ⟨i, hi, hc⟩ := Tryd.es_info
  obtain ⟨j, hj, hz⟩ := Tryd.es_info'
  exact run_eql_iface_ptr_other w Tryd.es_ti Tryd.underlying118 hi hc hj (of_decide_eq_true hz) (h.ne hg hk hne) h1 h2
theorem es_eql {E : Nat → Addr} {gs : List Nat} {w : World} (h : Sens w E gs) {g k : Nat} (hg : g ∈ gs) (hk : k ∈ gs) :
    (binOp .eql 47 (.iface 118 (.pointer (some (E g)))) (.iface 118 (.pointer (some (E k))))).run Tryd.prog w = .ok (.bool (g == k)) w := by
  by_cases he : g = k
  · subst he; rw [beq_self_eq_true]; exact es_same E g w
  · rw [beq_false_of_ne he]; exact es_other h hg hk he

/-- x, ok := v.(T), T no interface type: v's dynamic type is another: (T's zero, false). -/
theorem run_assert_not {P : Program} {t xT u : TypeId} {d : TypeDesc} {z v : Value} (hu : P.underlying u = some d) (hd : ∀ m, d ≠ .interface m) (hne : t ≠ u) (hz : (P.info? u).map (·.zero) = some (some z)) (w : World) :
    (Instr.typeAssert (.iface t v) xT u true).run P w = .ok (.tuple #[z, .bool false]) w := by
  obtain ⟨j, hj, hz'⟩ := Option.map_eq_some_iff.1 hz
  cases d with
  | interface m => exact absurd rfl (hd m)
  | _ => simp [Instr.typeAssert, run_underlying hu, hne, zeroValue, typeInfo, hj, hz']
/-- .. is T: (the value, true). -/
theorem run_assert_is {P : Program} {xT u : TypeId} {d : TypeDesc} {v : Value} (hu : P.underlying u = some d) (hd : ∀ m, d ≠ .interface m) (w : World) :
    (Instr.typeAssert (.iface u v) xT u true).run P w = .ok (.tuple #[v, .bool true]) w := by
  cases d with
  | interface m => exact absurd rfl (hd m)
  | _ => simp [Instr.typeAssert, run_underlying hu]
theorem Tryd.assertP (t : TypeId) (v : Value) (hne : t ≠ 73) (w : World) : (Instr.typeAssert (.iface t v) 47 73 true).run Tryd.prog w = .ok (.tuple #[.string ⟨#[]⟩, .bool false]) w :=
  run_assert_not Tryd.underlying73 (fun _ h => by cases h) hne (by kernel_rfl) w
theorem Tryd.assertP' (v : Value) (w : World) : (Instr.typeAssert (.iface 73 v) 47 73 true).run Tryd.prog w = .ok (.tuple #[v, .bool true]) w :=
  run_assert_is Tryd.underlying73 (fun _ h => by cases h) w
theorem Tryd.assertE (t : TypeId) (v : Value) (hne : t ≠ 70) (w : World) : (Instr.typeAssert (.iface t v) 47 70 true).run Tryd.prog w = .ok (.tuple #[.pointer none, .bool false]) w :=
  run_assert_not Tryd.underlying70 (fun _ h => by cases h) hne (by kernel_rfl) w
theorem Tryd.assertE' (v : Value) (w : World) : (Instr.typeAssert (.iface 70 v) 47 70 true).run Tryd.prog w = .ok (.tuple #[v, .bool true]) w :=
  run_assert_is Tryd.underlying70 (fun _ h => by cases h) w
theorem state_nil (w : World) : Calls Tryd.prog 22 #[.nilIface] w fun e w' => e = .returned (.int .i64 0) ∧ w = w' := by
  go_enter Tryd.func22, Tryd.ntmps22
  go_wp2
  all_goals go_ret
  all_goals exact ⟨rfl, rfl⟩
theorem state_eof {E : Nat → Addr} {gs : List Nat} (w : World) (h : Sens w E gs) (hg : 0 ∈ gs) (hk : 1 ∈ gs) :
    Calls Tryd.prog 22 #[.iface 118 (.pointer (some (E 0)))] w fun e w' => e = .returned (.int .i64 1) ∧ w = w' := by
  have c0 := (h.sen _ hg).cell
  have c1 := (h.sen _ hk).cell
  have h0 := fun w => es_same E 0 w
  go_enter Tryd.func22, Tryd.ntmps22
  go_wp2
  all_goals go_ret
  all_goals exact ⟨rfl, rfl⟩
theorem state_cut {E : Nat → Addr} {gs : List Nat} (w : World) (h : Sens w E gs) (hg : 0 ∈ gs) (hk : 1 ∈ gs) :
    Calls Tryd.prog 22 #[.iface 118 (.pointer (some (E 1)))] w fun e w' => e = .returned (.int .i64 2) ∧ w = w' := by
  have c0 := (h.sen _ hg).cell
  have c1 := (h.sen _ hk).cell
  have h0 := es_other h hk hg (by decide)
  have h1 := fun w => es_same E 1 w
  go_enter Tryd.func22, Tryd.ntmps22
  go_wp2
  all_goals go_ret
  all_goals exact ⟨rfl, rfl⟩
theorem state_other {E : Nat → Addr} {gs : List Nat} (w : World) (h : Sens w E gs) (hg : 0 ∈ gs) (hk : 1 ∈ gs) (g : Nat) (hm : g ∈ gs) (h0 : g ≠ 0) (h1 : g ≠ 1) :
    Calls Tryd.prog 22 #[.iface 118 (.pointer (some (E g)))] w fun e w' => e = .returned (.int .i64 5) ∧ w = w' := by
  have c0 := (h.sen _ hg).cell
  have c1 := (h.sen _ hk).cell
  have e0 := es_other h hm hg h0
  have e1 := es_other h hm hk h1
  have a0 := fun v w => Tryd.assertP 118 v (by decide) w
  have a1 := fun v w => Tryd.assertE 118 v (by decide) w
  go_enter Tryd.func22, Tryd.ntmps22
  go_wp2
  all_goals go_ret
  all_goals exact ⟨rfl, rfl⟩
theorem state_proto {E : Nat → Addr} {gs : List Nat} (w : World) (h : Sens w E gs) (hg : 0 ∈ gs) (hk : 1 ∈ gs) (s : ByteArray) :
    Calls Tryd.prog 22 #[.iface 73 (.string s)] w fun e w' => e = .returned (.int .i64 3) ∧ w = w' := by
  have c0 := (h.sen _ hg).cell
  have c1 := (h.sen _ hk).cell
  have e0 := fun (t : Value) w => run_eql_iface_types 73 118 (.string s) t Tryd.es_ti (by decide) w
  have a0 := fun v w => Tryd.assertP' v w
  go_enter Tryd.func22, Tryd.ntmps22
  go_wp2
  all_goals go_ret
  all_goals exact ⟨rfl, rfl⟩
theorem state_stat {E : Nat → Addr} {gs : List Nat} (w : World) (h : Sens w E gs) (hg : 0 ∈ gs) (hk : 1 ∈ gs) (a : Addr) :
    Calls Tryd.prog 22 #[.iface 70 (.pointer (some a))] w fun e w' => e = .returned (.int .i64 4) ∧ w = w' := by
  have c0 := (h.sen _ hg).cell
  have c1 := (h.sen _ hk).cell
  have e0 := fun (t : Value) w => run_eql_iface_types 70 118 (.pointer (some a)) t Tryd.es_ti (by decide) w
  have a0 := fun v w => Tryd.assertP 70 v (by decide) w
  have a1 := fun v w => Tryd.assertE' v w
  go_enter Tryd.func22, Tryd.ntmps22
  go_wp2
  all_goals go_ret
  all_goals exact ⟨rfl, rfl⟩

/-- 'state' of any of these errors. -/
theorem state_any {E : Nat → Addr} {gs : List Nat} (w : World) (h : Sens w E gs) (hg : 0 ∈ gs) (hk : 1 ∈ gs) (er : Er) (hi : er.in gs) :
    Calls Tryd.prog 22 #[er.val E] w fun e w' => e = .returned (.int .i64 er.num) ∧ w = w' := by
  cases er with
  | nil => exact state_nil w
  | sent g =>
    by_cases h0 : g = 0
    · subst h0; exact state_eof w h hg hk
    · by_cases h1 : g = 1
      · subst h1; exact state_cut w h hg hk
      · have hn : (Er.sent g).num = 5 := by
          show (if g = 0 then (1 : Int) else if g = 1 then 2 else 5) = 5
          rw [if_neg h0, if_neg h1]
        rw [hn]
        exact state_other w h hg hk g hi h0 h1
  | proto s => exact state_proto w h hg hk s
  | stat a => exact state_stat w h hg hk a
end Go.Proofs.YtfnkkjehkegpgaaDoor
