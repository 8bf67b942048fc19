/- The test ahead of a call of a dot reader's Read by interface, where the arguments may panic: the receiver is no nil pointer. -/
import Derived.Test.YteiiocibldpioaaDoorMem
namespace Go.Proofs.YteiiocibldpioaaDoor
open Go.RowKit

theorem nilAhead_of {P : Program} {t : TypeId} {v : Value} {name : String} {j : TypeInfo} {m : Method} {F : FuncId} (hj : P.info? t = some j) (hm : j.methods.find? (·.name == name) = some m) (h1 : m.path.toList = []) (h2 : m.func = some (F, true)) (k : Nat) (w : World) : (nilAhead (k + 1) t v name).run P w = .ok (some false) w := by
  unfold nilAhead
  simp [typeInfo, hj, hm, h1, h2, followBlind]
theorem Tryd.aheadRow : ((Tryd.prog.info? 107).bind fun j => (j.methods.find? (·.name == "Read")).map fun m => (m.path.toList, m.func)) = some ([], some (70, true)) := by kernel_rfl
theorem Tryd.ahead (k : Nat) (a : Addr) (w : World) : (nilAhead (k + 1) 107 (.pointer (some a)) "Read").run Tryd.prog w = .ok (some false) w := by
  have h := Tryd.aheadRow
  cases hj : Tryd.prog.info? 107 with
  | none => rw [hj] at h; cases h
  | some j =>
    rw [hj, Option.bind_some] at h
    cases hm : j.methods.find? (·.name == "Read") with
    | none => rw [hm] at h; cases h
    | some m =>
      rw [hm] at h
      simp only [Option.map_some, Option.some.injEq, Prod.mk.injEq] at h
      exact nilAhead_of hj hm h.1 h.2 k w
end Go.Proofs.YteiiocibldpioaaDoor
