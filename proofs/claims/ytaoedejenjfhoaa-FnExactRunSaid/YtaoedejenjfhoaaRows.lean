/-
  No cell of these rows narrows 'for every input' (looked for: loops, veiled, ifaces, maps, wideKeys, modest, calm, conditions, laid).
  DERIVED. THE GIVEN ROWS OF THIS SEAT. 5 by the template 'for every input the law returns true; each argument reads behind the call as it read before'; 0 by the template 'total and deterministic' (their statements: YtaoedejenjfhoaaTotals.lean).
  GIVEN WITH THE SEED: the statements are not yours to turn. If you find one false, say at which input.
  Laid BY PROGRAM, IN A SANDBOX (cutbox-rows.mjs): the forced cells as the released guide's own fill.sh prints them over the translation b1662e94457a6a91… (all of the seat's roots in one cut). By AI agents, Wed Nov 11 2026. No macro, syntax, notation, axiom, sorry.
-/
import Derived.Test.YtaoedejenjfhoaaChecked
import GoSem.Claim
import GoSem.ClaimJoined
import GoSem.ClaimMapViews
import Derived.JoinedTies
import Derived.KernelRfl
namespace Go.Proofs.Ytaoedejenjfhoaa
/- THE CELL 'sum', in the pinned program and in every row, IS THE sha256 OF THE DUMP (.gsa) THAT YtaoedejenjfhoaaProg.lean LOADS. Nothing in Lean hashes anything: it is a label: what it is worth is what the hold of that sum in a sandbox is worth. -/
noncomputable def Try.pinned : Pinned := { name := "ytaoedejenjfhoaa", sum := "b1662e94457a6a91c954ae891acc3de983503ad3f45e370a708dc3540ca10650", checked := Try.checked }
namespace Rows
def none {H : Type} : Left H := { results := [], args := [] }

/-- 'laws.FnExactValueByte': WHATEVER THE INPUT: true; the input reads as it did. -/
def fnExactValueByteSpec : ChangeSpec := { name := "fnExactValueByte", fn := fun _ => fun
  | [d] => { results := [.lit (.bool true)], args := [d] }
  | _ => none }
def fnExactValueByteRow : OpenClaim := { program := "ytaoedejenjfhoaa", sum := "b1662e94457a6a91c954ae891acc3de983503ad3f45e370a708dc3540ca10650", func := "loop.example/pub-headerlines/laws.FnExactValueByte", spec := "fnExactValueByte", apart := false }
def FnExactValueByteSaid : Prop := fnExactValueByteRow.holds Try.pinned (OpenSpec.ofChange fnExactValueByteSpec)

/-- ITS FALSE NEIGHBOUR: 'it returns false'. Refute it at one input. -/
def fnExactValueByteWrong : ChangeSpec := { name := "fnExactValueByte", fn := fun _ => fun
  | [d] => { results := [.lit (.bool false)], args := [d] }
  | _ => none }
def FnExactValueByteWrongFalsely : Prop := fnExactValueByteRow.holds Try.pinned (OpenSpec.ofChange fnExactValueByteWrong)

/-- 'laws.FnExactTrim': WHATEVER THE INPUT: true; the input reads as it did. -/
def fnExactTrimSpec : ChangeSpec := { name := "fnExactTrim", fn := fun _ => fun
  | [d] => { results := [.lit (.bool true)], args := [d] }
  | _ => none }
def fnExactTrimRow : OpenClaim := { program := "ytaoedejenjfhoaa", sum := "b1662e94457a6a91c954ae891acc3de983503ad3f45e370a708dc3540ca10650", func := "loop.example/pub-headerlines/laws.FnExactTrim", spec := "fnExactTrim", apart := false }
def FnExactTrimSaid : Prop := fnExactTrimRow.holds Try.pinned (OpenSpec.ofChange fnExactTrimSpec)

/-- ITS FALSE NEIGHBOUR: 'it returns false'. Refute it at one input. -/
def fnExactTrimWrong : ChangeSpec := { name := "fnExactTrim", fn := fun _ => fun
  | [d] => { results := [.lit (.bool false)], args := [d] }
  | _ => none }
def FnExactTrimWrongFalsely : Prop := fnExactTrimRow.holds Try.pinned (OpenSpec.ofChange fnExactTrimWrong)

/-- 'laws.FnExactFieldByte': WHATEVER THE INPUT: true; the input reads as it did. -/
def fnExactFieldByteSpec : ChangeSpec := { name := "fnExactFieldByte", fn := fun _ => fun
  | [d] => { results := [.lit (.bool true)], args := [d] }
  | _ => none }
def fnExactFieldByteRow : OpenClaim := { program := "ytaoedejenjfhoaa", sum := "b1662e94457a6a91c954ae891acc3de983503ad3f45e370a708dc3540ca10650", func := "loop.example/pub-headerlines/laws.FnExactFieldByte", spec := "fnExactFieldByte", apart := false }
def FnExactFieldByteSaid : Prop := fnExactFieldByteRow.holds Try.pinned (OpenSpec.ofChange fnExactFieldByteSpec)

/-- ITS FALSE NEIGHBOUR: 'it returns false'. Refute it at one input. -/
def fnExactFieldByteWrong : ChangeSpec := { name := "fnExactFieldByte", fn := fun _ => fun
  | [d] => { results := [.lit (.bool false)], args := [d] }
  | _ => none }
def FnExactFieldByteWrongFalsely : Prop := fnExactFieldByteRow.holds Try.pinned (OpenSpec.ofChange fnExactFieldByteWrong)

/-- 'laws.FnExactCanon': WHATEVER THE INPUT: true; the input reads as it did. -/
def fnExactCanonSpec : ChangeSpec := { name := "fnExactCanon", fn := fun _ => fun
  | [d] => { results := [.lit (.bool true)], args := [d] }
  | _ => none }
def fnExactCanonRow : OpenClaim := { program := "ytaoedejenjfhoaa", sum := "b1662e94457a6a91c954ae891acc3de983503ad3f45e370a708dc3540ca10650", func := "loop.example/pub-headerlines/laws.FnExactCanon", spec := "fnExactCanon", apart := false }
def FnExactCanonSaid : Prop := fnExactCanonRow.holds Try.pinned (OpenSpec.ofChange fnExactCanonSpec)

/-- ITS FALSE NEIGHBOUR: 'it returns false'. Refute it at one input. -/
def fnExactCanonWrong : ChangeSpec := { name := "fnExactCanon", fn := fun _ => fun
  | [d] => { results := [.lit (.bool false)], args := [d] }
  | _ => none }
def FnExactCanonWrongFalsely : Prop := fnExactCanonRow.holds Try.pinned (OpenSpec.ofChange fnExactCanonWrong)

/-- 'laws.FnExactRun': WHATEVER THE INPUT: true; the input reads as it did. -/
def fnExactRunSpec : ChangeSpec := { name := "fnExactRun", fn := fun _ => fun
  | [d] => { results := [.lit (.bool true)], args := [d] }
  | _ => none }
def fnExactRunRow : OpenClaim := { program := "ytaoedejenjfhoaa", sum := "b1662e94457a6a91c954ae891acc3de983503ad3f45e370a708dc3540ca10650", func := "loop.example/pub-headerlines/laws.FnExactRun", spec := "fnExactRun", unfollowed := true, recurses := true, apart := false }
def FnExactRunSaid : Prop := fnExactRunRow.holds Try.pinned (OpenSpec.ofChange fnExactRunSpec)

/-- ITS FALSE NEIGHBOUR: 'it returns false'. Refute it at one input. -/
def fnExactRunWrong : ChangeSpec := { name := "fnExactRun", fn := fun _ => fun
  | [d] => { results := [.lit (.bool false)], args := [d] }
  | _ => none }
def FnExactRunWrongFalsely : Prop := fnExactRunRow.holds Try.pinned (OpenSpec.ofChange fnExactRunWrong)

/- THE SECOND FORM. 'bulk': how many values and letters a reading holds, each counted each time it is reached (what is shared counts as often as it is met; a slice's spare places count too). A statement '..UptoSaid' is the law's where the arguments, and the package variables that the reading takes, are together of bulk at most 1048576: NARROWER than '..Said'. Prove '..Said' where nothing that the law and all that it calls make is longer than what came in: it says more and counts as full. Else prove '..UptoSaid'. A law counts once. -/
mutual
def uptoBulk {H : Type} : DataW H → Nat
  | .lit (.string bytes) => bytes.length + 1
  | .lit _ => 1
  | .nil => 1
  | .ptr d => uptoBulk d + 1
  | .slice elems spare => uptoBulkAll elems + uptoBulkAll spare + 1
  | .agg parts => uptoBulkAll parts + 1
  | .iface _ d => uptoBulk d + 1
  | .map entries => uptoBulkEntries entries + 1
  | .held _ => 1
def uptoBulkAll {H : Type} : List (DataW H) → Nat
  | [] => 0
  | d :: r => uptoBulk d + uptoBulkAll r
def uptoBulkEntries {H : Type} : List (Lit × DataW H) → Nat
  | [] => 0
  | x :: r => uptoBulkEntry x + uptoBulkEntries r
def uptoBulkEntry {H : Type} : Lit × DataW H → Nat
  | (.string bytes, d) => bytes.length + uptoBulk d + 1
  | (_, d) => uptoBulk d + 1
 end
def uptoSmall : (H : Type) → List (DataW H) → Bool := fun _ ds => decide (uptoBulkAll ds ≤ 1048576)
def OpenSpec.upto (s : _root_.Go.ChangeSpec) : _root_.Go.OpenSpec := { _root_.Go.OpenSpec.ofChange s with cond := some uptoSmall }

/-- 'laws.FnExactValueByte', WHERE WHAT IT READS IS OF BULK AT MOST 1048576: true; the input reads as it did. -/
def fnExactValueByteUptoRow : OpenClaim := { program := "ytaoedejenjfhoaa", sum := "b1662e94457a6a91c954ae891acc3de983503ad3f45e370a708dc3540ca10650", func := "loop.example/pub-headerlines/laws.FnExactValueByte", spec := "fnExactValueByte", apart := false, narrowed := true }
def FnExactValueByteUptoSaid : Prop := fnExactValueByteUptoRow.holds Try.pinned (OpenSpec.upto fnExactValueByteSpec)

/-- 'laws.FnExactTrim', WHERE WHAT IT READS IS OF BULK AT MOST 1048576: true; the input reads as it did. -/
def fnExactTrimUptoRow : OpenClaim := { program := "ytaoedejenjfhoaa", sum := "b1662e94457a6a91c954ae891acc3de983503ad3f45e370a708dc3540ca10650", func := "loop.example/pub-headerlines/laws.FnExactTrim", spec := "fnExactTrim", apart := false, narrowed := true }
def FnExactTrimUptoSaid : Prop := fnExactTrimUptoRow.holds Try.pinned (OpenSpec.upto fnExactTrimSpec)

/-- 'laws.FnExactFieldByte', WHERE WHAT IT READS IS OF BULK AT MOST 1048576: true; the input reads as it did. -/
def fnExactFieldByteUptoRow : OpenClaim := { program := "ytaoedejenjfhoaa", sum := "b1662e94457a6a91c954ae891acc3de983503ad3f45e370a708dc3540ca10650", func := "loop.example/pub-headerlines/laws.FnExactFieldByte", spec := "fnExactFieldByte", apart := false, narrowed := true }
def FnExactFieldByteUptoSaid : Prop := fnExactFieldByteUptoRow.holds Try.pinned (OpenSpec.upto fnExactFieldByteSpec)

/-- 'laws.FnExactCanon', WHERE WHAT IT READS IS OF BULK AT MOST 1048576: true; the input reads as it did. -/
def fnExactCanonUptoRow : OpenClaim := { program := "ytaoedejenjfhoaa", sum := "b1662e94457a6a91c954ae891acc3de983503ad3f45e370a708dc3540ca10650", func := "loop.example/pub-headerlines/laws.FnExactCanon", spec := "fnExactCanon", apart := false, narrowed := true }
def FnExactCanonUptoSaid : Prop := fnExactCanonUptoRow.holds Try.pinned (OpenSpec.upto fnExactCanonSpec)

/-- 'laws.FnExactRun', WHERE WHAT IT READS IS OF BULK AT MOST 1048576: true; the input reads as it did. -/
def fnExactRunUptoRow : OpenClaim := { program := "ytaoedejenjfhoaa", sum := "b1662e94457a6a91c954ae891acc3de983503ad3f45e370a708dc3540ca10650", func := "loop.example/pub-headerlines/laws.FnExactRun", spec := "fnExactRun", unfollowed := true, recurses := true, apart := false, narrowed := true }
def FnExactRunUptoSaid : Prop := fnExactRunUptoRow.holds Try.pinned (OpenSpec.upto fnExactRunSpec)

end Rows
end Go.Proofs.Ytaoedejenjfhoaa
