/-
  No cell of these rows narrows 'for every input' (looked for: loops, veiled, ifaces, maps, wideKeys, modest, calm, conditions, laid).
  DERIVED. THE GIVEN ROWS OF THIS SEAT. 4 by the template 'for every input the law returns true; each argument reads behind the call as it read before'; 0 by the template 'total and deterministic' (their statements: YtoebgoepaolpcaaTotals.lean).
  GIVEN WITH THE SEED: the statements are not yours to turn. If you find one false, say at which input.
  Laid BY PROGRAM, IN A SANDBOX (cutbox-rows.mjs): the forced cells as the released guide's own fill.sh prints them over the translation 89d5fdd2fad1ad19… (all of the seat's roots in one cut). By AI agents, Wed Nov 11 2026. No macro, syntax, notation, axiom, sorry.
-/
import Derived.Test.YtoebgoepaolpcaaChecked
import GoSem.Claim
import GoSem.ClaimJoined
import GoSem.ClaimMapViews
import Derived.JoinedTies
import Derived.KernelRfl
namespace Go.Proofs.Ytoebgoepaolpcaa
/- THE CELL 'sum', in the pinned program and in every row, IS THE sha256 OF THE DUMP (.gsa) THAT YtoebgoepaolpcaaProg.lean LOADS. Nothing in Lean hashes anything: it is a label: what it is worth is what the hold of that sum in a sandbox is worth. -/
noncomputable def Try.pinned : Pinned := { name := "ytoebgoepaolpcaa", sum := "89d5fdd2fad1ad19092d1634d5691f55e8106970747daf4aee038792702cbcb6", checked := Try.checked }
namespace Rows
def none {H : Type} : Left H := { results := [], args := [] }

/-- 'laws.FnSpread16': WHATEVER THE INPUT: true; the input reads as it did. -/
def fnSpread16Spec : ChangeSpec := { name := "fnSpread16", fn := fun _ => fun
  | [d1, d2, d3] => { results := [.lit (.bool true)], args := [d1, d2, d3] }
  | _ => none }
def fnSpread16Row : OpenClaim := { program := "ytoebgoepaolpcaa", sum := "89d5fdd2fad1ad19092d1634d5691f55e8106970747daf4aee038792702cbcb6", func := "loop.example/lib-carryroads/laws.FnSpread16", spec := "fnSpread16", apart := false }
def FnSpread16Said : Prop := fnSpread16Row.holds Try.pinned (OpenSpec.ofChange fnSpread16Spec)

/-- ITS FALSE NEIGHBOUR: 'it returns false'. Refute it at one input. -/
def fnSpread16Wrong : ChangeSpec := { name := "fnSpread16", fn := fun _ => fun
  | [d1, d2, d3] => { results := [.lit (.bool false)], args := [d1, d2, d3] }
  | _ => none }
def FnSpread16WrongFalsely : Prop := fnSpread16Row.holds Try.pinned (OpenSpec.ofChange fnSpread16Wrong)

/-- 'laws.FnSpread32': WHATEVER THE INPUT: true; the input reads as it did. -/
def fnSpread32Spec : ChangeSpec := { name := "fnSpread32", fn := fun _ => fun
  | [d1, d2, d3] => { results := [.lit (.bool true)], args := [d1, d2, d3] }
  | _ => none }
def fnSpread32Row : OpenClaim := { program := "ytoebgoepaolpcaa", sum := "89d5fdd2fad1ad19092d1634d5691f55e8106970747daf4aee038792702cbcb6", func := "loop.example/lib-carryroads/laws.FnSpread32", spec := "fnSpread32", apart := false }
def FnSpread32Said : Prop := fnSpread32Row.holds Try.pinned (OpenSpec.ofChange fnSpread32Spec)

/-- ITS FALSE NEIGHBOUR: 'it returns false'. Refute it at one input. -/
def fnSpread32Wrong : ChangeSpec := { name := "fnSpread32", fn := fun _ => fun
  | [d1, d2, d3] => { results := [.lit (.bool false)], args := [d1, d2, d3] }
  | _ => none }
def FnSpread32WrongFalsely : Prop := fnSpread32Row.holds Try.pinned (OpenSpec.ofChange fnSpread32Wrong)

/-- 'laws.FnSpread64': WHATEVER THE INPUT: true; the input reads as it did. -/
def fnSpread64Spec : ChangeSpec := { name := "fnSpread64", fn := fun _ => fun
  | [d1, d2, d3] => { results := [.lit (.bool true)], args := [d1, d2, d3] }
  | _ => none }
def fnSpread64Row : OpenClaim := { program := "ytoebgoepaolpcaa", sum := "89d5fdd2fad1ad19092d1634d5691f55e8106970747daf4aee038792702cbcb6", func := "loop.example/lib-carryroads/laws.FnSpread64", spec := "fnSpread64", apart := false }
def FnSpread64Said : Prop := fnSpread64Row.holds Try.pinned (OpenSpec.ofChange fnSpread64Spec)

/-- ITS FALSE NEIGHBOUR: 'it returns false'. Refute it at one input. -/
def fnSpread64Wrong : ChangeSpec := { name := "fnSpread64", fn := fun _ => fun
  | [d1, d2, d3] => { results := [.lit (.bool false)], args := [d1, d2, d3] }
  | _ => none }
def FnSpread64WrongFalsely : Prop := fnSpread64Row.holds Try.pinned (OpenSpec.ofChange fnSpread64Wrong)

/-- 'laws.FnSpread8': WHATEVER THE INPUT: true; the input reads as it did. -/
def fnSpread8Spec : ChangeSpec := { name := "fnSpread8", fn := fun _ => fun
  | [d1, d2, d3] => { results := [.lit (.bool true)], args := [d1, d2, d3] }
  | _ => none }
def fnSpread8Row : OpenClaim := { program := "ytoebgoepaolpcaa", sum := "89d5fdd2fad1ad19092d1634d5691f55e8106970747daf4aee038792702cbcb6", func := "loop.example/lib-carryroads/laws.FnSpread8", spec := "fnSpread8", apart := false }
def FnSpread8Said : Prop := fnSpread8Row.holds Try.pinned (OpenSpec.ofChange fnSpread8Spec)

/-- ITS FALSE NEIGHBOUR: 'it returns false'. Refute it at one input. -/
def fnSpread8Wrong : ChangeSpec := { name := "fnSpread8", fn := fun _ => fun
  | [d1, d2, d3] => { results := [.lit (.bool false)], args := [d1, d2, d3] }
  | _ => none }
def FnSpread8WrongFalsely : Prop := fnSpread8Row.holds Try.pinned (OpenSpec.ofChange fnSpread8Wrong)

/- THE SECOND FORM. 'bulk': how many values and letters a reading holds, each counted each time it is reached (what is shared counts as often as it is met; a slice's spare places count too). A statement '..UptoSaid' is the law's where the arguments, and the package variables that the reading takes, are together of bulk at most 1048576: NARROWER than '..Said'. Prove '..Said' where nothing that the law and all that it calls make is longer than what came in: it says more and counts as full. Else prove '..UptoSaid'. A law counts once. -/
mutual
def uptoBulk {H : Type} : DataW H → Nat
  | .lit (.string bytes) => bytes.length + 1
  | .lit _ => 1
  | .nil => 1
  | .ptr d => uptoBulk d + 1
  | .slice elems spare => uptoBulkAll elems + uptoBulkAll spare + 1
  | .agg parts => uptoBulkAll parts + 1
  | .iface _ d => uptoBulk d + 1
  | .map entries => uptoBulkEntries entries + 1
  | .held _ => 1
def uptoBulkAll {H : Type} : List (DataW H) → Nat
  | [] => 0
  | d :: r => uptoBulk d + uptoBulkAll r
def uptoBulkEntries {H : Type} : List (Lit × DataW H) → Nat
  | [] => 0
  | x :: r => uptoBulkEntry x + uptoBulkEntries r
def uptoBulkEntry {H : Type} : Lit × DataW H → Nat
  | (.string bytes, d) => bytes.length + uptoBulk d + 1
  | (_, d) => uptoBulk d + 1
 end
def uptoSmall : (H : Type) → List (DataW H) → Bool := fun _ ds => decide (uptoBulkAll ds ≤ 1048576)
def OpenSpec.upto (s : _root_.Go.ChangeSpec) : _root_.Go.OpenSpec := { _root_.Go.OpenSpec.ofChange s with cond := some uptoSmall }

/-- 'laws.FnSpread16', WHERE WHAT IT READS IS OF BULK AT MOST 1048576: true; the input reads as it did. -/
def fnSpread16UptoRow : OpenClaim := { program := "ytoebgoepaolpcaa", sum := "89d5fdd2fad1ad19092d1634d5691f55e8106970747daf4aee038792702cbcb6", func := "loop.example/lib-carryroads/laws.FnSpread16", spec := "fnSpread16", apart := false, narrowed := true }
def FnSpread16UptoSaid : Prop := fnSpread16UptoRow.holds Try.pinned (OpenSpec.upto fnSpread16Spec)

/-- 'laws.FnSpread32', WHERE WHAT IT READS IS OF BULK AT MOST 1048576: true; the input reads as it did. -/
def fnSpread32UptoRow : OpenClaim := { program := "ytoebgoepaolpcaa", sum := "89d5fdd2fad1ad19092d1634d5691f55e8106970747daf4aee038792702cbcb6", func := "loop.example/lib-carryroads/laws.FnSpread32", spec := "fnSpread32", apart := false, narrowed := true }
def FnSpread32UptoSaid : Prop := fnSpread32UptoRow.holds Try.pinned (OpenSpec.upto fnSpread32Spec)

/-- 'laws.FnSpread64', WHERE WHAT IT READS IS OF BULK AT MOST 1048576: true; the input reads as it did. -/
def fnSpread64UptoRow : OpenClaim := { program := "ytoebgoepaolpcaa", sum := "89d5fdd2fad1ad19092d1634d5691f55e8106970747daf4aee038792702cbcb6", func := "loop.example/lib-carryroads/laws.FnSpread64", spec := "fnSpread64", apart := false, narrowed := true }
def FnSpread64UptoSaid : Prop := fnSpread64UptoRow.holds Try.pinned (OpenSpec.upto fnSpread64Spec)

/-- 'laws.FnSpread8', WHERE WHAT IT READS IS OF BULK AT MOST 1048576: true; the input reads as it did. -/
def fnSpread8UptoRow : OpenClaim := { program := "ytoebgoepaolpcaa", sum := "89d5fdd2fad1ad19092d1634d5691f55e8106970747daf4aee038792702cbcb6", func := "loop.example/lib-carryroads/laws.FnSpread8", spec := "fnSpread8", apart := false, narrowed := true }
def FnSpread8UptoSaid : Prop := fnSpread8UptoRow.holds Try.pinned (OpenSpec.upto fnSpread8Spec)

end Rows
end Go.Proofs.Ytoebgoepaolpcaa
