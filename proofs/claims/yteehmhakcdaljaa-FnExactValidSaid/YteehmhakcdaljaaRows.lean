/-
  No cell of these rows narrows 'for every input' (looked for: loops, veiled, ifaces, maps, wideKeys, modest, calm, conditions, laid).
  DERIVED. THE GIVEN ROWS OF THIS SEAT. 5 by the template 'for every input the law returns true; each argument reads behind the call as it read before'; 0 by the template 'total and deterministic' (their statements: YteehmhakcdaljaaTotals.lean).
  GIVEN WITH THE SEED: the statements are not yours to turn. If you find one false, say at which input.
  Laid BY PROGRAM, IN A SANDBOX (cutbox-rows.mjs): the forced cells as the released guide's own fill.sh prints them over the translation 447cd6292e5fd91a… (all of the seat's roots in one cut). By AI agents, Wed Nov 11 2026. No macro, syntax, notation, axiom, sorry.
-/
import Derived.Test.YteehmhakcdaljaaChecked
import GoSem.Claim
import GoSem.ClaimJoined
import GoSem.ClaimMapViews
import Derived.JoinedTies
import Derived.KernelRfl
namespace Go.Proofs.Yteehmhakcdaljaa
/- THE CELL 'sum', in the pinned program and in every row, IS THE sha256 OF THE DUMP (.gsa) THAT YteehmhakcdaljaaProg.lean LOADS. Nothing in Lean hashes anything: it is a label: what it is worth is what the hold of that sum in a sandbox is worth. -/
noncomputable def Try.pinned : Pinned := { name := "yteehmhakcdaljaa", sum := "447cd6292e5fd91a549cf25e6ce053b840b8bc265fc97562cfd48460da575d05", checked := Try.checked }
namespace Rows
def none {H : Type} : Left H := { results := [], args := [] }

/-- 'laws.FnExactParseUint': WHATEVER THE INPUT: true; the input reads as it did. -/
def fnExactParseUintSpec : ChangeSpec := { name := "fnExactParseUint", fn := fun _ => fun
  | [d] => { results := [.lit (.bool true)], args := [d] }
  | _ => none }
def fnExactParseUintRow : OpenClaim := { program := "yteehmhakcdaljaa", sum := "447cd6292e5fd91a549cf25e6ce053b840b8bc265fc97562cfd48460da575d05", func := "loop.example/pub-jsonroads/laws.FnExactParseUint", spec := "fnExactParseUint", apart := false }
def FnExactParseUintSaid : Prop := fnExactParseUintRow.holds Try.pinned (OpenSpec.ofChange fnExactParseUintSpec)

/-- ITS FALSE NEIGHBOUR: 'it returns false'. Refute it at one input. -/
def fnExactParseUintWrong : ChangeSpec := { name := "fnExactParseUint", fn := fun _ => fun
  | [d] => { results := [.lit (.bool false)], args := [d] }
  | _ => none }
def FnExactParseUintWrongFalsely : Prop := fnExactParseUintRow.holds Try.pinned (OpenSpec.ofChange fnExactParseUintWrong)

/-- 'laws.FnExactLessLower': WHATEVER THE INPUT: true; the input reads as it did. -/
def fnExactLessLowerSpec : ChangeSpec := { name := "fnExactLessLower", fn := fun _ => fun
  | [d1, d2] => { results := [.lit (.bool true)], args := [d1, d2] }
  | _ => none }
def fnExactLessLowerRow : OpenClaim := { program := "yteehmhakcdaljaa", sum := "447cd6292e5fd91a549cf25e6ce053b840b8bc265fc97562cfd48460da575d05", func := "loop.example/pub-jsonroads/laws.FnExactLessLower", spec := "fnExactLessLower", apart := false }
def FnExactLessLowerSaid : Prop := fnExactLessLowerRow.holds Try.pinned (OpenSpec.ofChange fnExactLessLowerSpec)

/-- ITS FALSE NEIGHBOUR: 'it returns false'. Refute it at one input. -/
def fnExactLessLowerWrong : ChangeSpec := { name := "fnExactLessLower", fn := fun _ => fun
  | [d1, d2] => { results := [.lit (.bool false)], args := [d1, d2] }
  | _ => none }
def FnExactLessLowerWrongFalsely : Prop := fnExactLessLowerRow.holds Try.pinned (OpenSpec.ofChange fnExactLessLowerWrong)

/-- 'laws.FnExactParseInt': WHATEVER THE INPUT: true; the input reads as it did. -/
def fnExactParseIntSpec : ChangeSpec := { name := "fnExactParseInt", fn := fun _ => fun
  | [d] => { results := [.lit (.bool true)], args := [d] }
  | _ => none }
def fnExactParseIntRow : OpenClaim := { program := "yteehmhakcdaljaa", sum := "447cd6292e5fd91a549cf25e6ce053b840b8bc265fc97562cfd48460da575d05", func := "loop.example/pub-jsonroads/laws.FnExactParseInt", spec := "fnExactParseInt", recurses := true, apart := false }
def FnExactParseIntSaid : Prop := fnExactParseIntRow.holds Try.pinned (OpenSpec.ofChange fnExactParseIntSpec)

/-- ITS FALSE NEIGHBOUR: 'it returns false'. Refute it at one input. -/
def fnExactParseIntWrong : ChangeSpec := { name := "fnExactParseInt", fn := fun _ => fun
  | [d] => { results := [.lit (.bool false)], args := [d] }
  | _ => none }
def FnExactParseIntWrongFalsely : Prop := fnExactParseIntRow.holds Try.pinned (OpenSpec.ofChange fnExactParseIntWrong)

/-- 'laws.FnExactSquash': WHATEVER THE INPUT: true; the input reads as it did. -/
def fnExactSquashSpec : ChangeSpec := { name := "fnExactSquash", fn := fun _ => fun
  | [d1, d2] => { results := [.lit (.bool true)], args := [d1, d2] }
  | _ => none }
def fnExactSquashRow : OpenClaim := { program := "yteehmhakcdaljaa", sum := "447cd6292e5fd91a549cf25e6ce053b840b8bc265fc97562cfd48460da575d05", func := "loop.example/pub-jsonroads/laws.FnExactSquash", spec := "fnExactSquash", recurses := true, apart := false }
def FnExactSquashSaid : Prop := fnExactSquashRow.holds Try.pinned (OpenSpec.ofChange fnExactSquashSpec)

/-- ITS FALSE NEIGHBOUR: 'it returns false'. Refute it at one input. -/
def fnExactSquashWrong : ChangeSpec := { name := "fnExactSquash", fn := fun _ => fun
  | [d1, d2] => { results := [.lit (.bool false)], args := [d1, d2] }
  | _ => none }
def FnExactSquashWrongFalsely : Prop := fnExactSquashRow.holds Try.pinned (OpenSpec.ofChange fnExactSquashWrong)

/-- 'laws.FnExactValid': WHATEVER THE INPUT: true; the input reads as it did. -/
def fnExactValidSpec : ChangeSpec := { name := "fnExactValid", fn := fun _ => fun
  | [d] => { results := [.lit (.bool true)], args := [d] }
  | _ => none }
def fnExactValidRow : OpenClaim := { program := "yteehmhakcdaljaa", sum := "447cd6292e5fd91a549cf25e6ce053b840b8bc265fc97562cfd48460da575d05", func := "loop.example/pub-jsonroads/laws.FnExactValid", spec := "fnExactValid", recurses := true, apart := false }
def FnExactValidSaid : Prop := fnExactValidRow.holds Try.pinned (OpenSpec.ofChange fnExactValidSpec)

/-- ITS FALSE NEIGHBOUR: 'it returns false'. Refute it at one input. -/
def fnExactValidWrong : ChangeSpec := { name := "fnExactValid", fn := fun _ => fun
  | [d] => { results := [.lit (.bool false)], args := [d] }
  | _ => none }
def FnExactValidWrongFalsely : Prop := fnExactValidRow.holds Try.pinned (OpenSpec.ofChange fnExactValidWrong)

/- THE SECOND FORM. 'bulk': how many values and letters a reading holds, each counted each time it is reached (what is shared counts as often as it is met; a slice's spare places count too). A statement '..UptoSaid' is the law's where the arguments, and the package variables that the reading takes, are together of bulk at most 1048576: NARROWER than '..Said'. Prove '..Said' where nothing that the law and all that it calls make is longer than what came in: it says more and counts as full. Else prove '..UptoSaid'. A law counts once. -/
mutual
def uptoBulk {H : Type} : DataW H → Nat
  | .lit (.string bytes) => bytes.length + 1
  | .lit _ => 1
  | .nil => 1
  | .ptr d => uptoBulk d + 1
  | .slice elems spare => uptoBulkAll elems + uptoBulkAll spare + 1
  | .agg parts => uptoBulkAll parts + 1
  | .iface _ d => uptoBulk d + 1
  | .map entries => uptoBulkEntries entries + 1
  | .held _ => 1
def uptoBulkAll {H : Type} : List (DataW H) → Nat
  | [] => 0
  | d :: r => uptoBulk d + uptoBulkAll r
def uptoBulkEntries {H : Type} : List (Lit × DataW H) → Nat
  | [] => 0
  | x :: r => uptoBulkEntry x + uptoBulkEntries r
def uptoBulkEntry {H : Type} : Lit × DataW H → Nat
  | (.string bytes, d) => bytes.length + uptoBulk d + 1
  | (_, d) => uptoBulk d + 1
 end
def uptoSmall : (H : Type) → List (DataW H) → Bool := fun _ ds => decide (uptoBulkAll ds ≤ 1048576)
def OpenSpec.upto (s : _root_.Go.ChangeSpec) : _root_.Go.OpenSpec := { _root_.Go.OpenSpec.ofChange s with cond := some uptoSmall }

/-- 'laws.FnExactParseUint', WHERE WHAT IT READS IS OF BULK AT MOST 1048576: true; the input reads as it did. -/
def fnExactParseUintUptoRow : OpenClaim := { program := "yteehmhakcdaljaa", sum := "447cd6292e5fd91a549cf25e6ce053b840b8bc265fc97562cfd48460da575d05", func := "loop.example/pub-jsonroads/laws.FnExactParseUint", spec := "fnExactParseUint", apart := false, narrowed := true }
def FnExactParseUintUptoSaid : Prop := fnExactParseUintUptoRow.holds Try.pinned (OpenSpec.upto fnExactParseUintSpec)

/-- 'laws.FnExactLessLower', WHERE WHAT IT READS IS OF BULK AT MOST 1048576: true; the input reads as it did. -/
def fnExactLessLowerUptoRow : OpenClaim := { program := "yteehmhakcdaljaa", sum := "447cd6292e5fd91a549cf25e6ce053b840b8bc265fc97562cfd48460da575d05", func := "loop.example/pub-jsonroads/laws.FnExactLessLower", spec := "fnExactLessLower", apart := false, narrowed := true }
def FnExactLessLowerUptoSaid : Prop := fnExactLessLowerUptoRow.holds Try.pinned (OpenSpec.upto fnExactLessLowerSpec)

/-- 'laws.FnExactParseInt', WHERE WHAT IT READS IS OF BULK AT MOST 1048576: true; the input reads as it did. -/
def fnExactParseIntUptoRow : OpenClaim := { program := "yteehmhakcdaljaa", sum := "447cd6292e5fd91a549cf25e6ce053b840b8bc265fc97562cfd48460da575d05", func := "loop.example/pub-jsonroads/laws.FnExactParseInt", spec := "fnExactParseInt", recurses := true, apart := false, narrowed := true }
def FnExactParseIntUptoSaid : Prop := fnExactParseIntUptoRow.holds Try.pinned (OpenSpec.upto fnExactParseIntSpec)

/-- 'laws.FnExactSquash', WHERE WHAT IT READS IS OF BULK AT MOST 1048576: true; the input reads as it did. -/
def fnExactSquashUptoRow : OpenClaim := { program := "yteehmhakcdaljaa", sum := "447cd6292e5fd91a549cf25e6ce053b840b8bc265fc97562cfd48460da575d05", func := "loop.example/pub-jsonroads/laws.FnExactSquash", spec := "fnExactSquash", recurses := true, apart := false, narrowed := true }
def FnExactSquashUptoSaid : Prop := fnExactSquashUptoRow.holds Try.pinned (OpenSpec.upto fnExactSquashSpec)

/-- 'laws.FnExactValid', WHERE WHAT IT READS IS OF BULK AT MOST 1048576: true; the input reads as it did. -/
def fnExactValidUptoRow : OpenClaim := { program := "yteehmhakcdaljaa", sum := "447cd6292e5fd91a549cf25e6ce053b840b8bc265fc97562cfd48460da575d05", func := "loop.example/pub-jsonroads/laws.FnExactValid", spec := "fnExactValid", recurses := true, apart := false, narrowed := true }
def FnExactValidUptoSaid : Prop := fnExactValidUptoRow.holds Try.pinned (OpenSpec.upto fnExactValidSpec)

end Rows
end Go.Proofs.Yteehmhakcdaljaa
