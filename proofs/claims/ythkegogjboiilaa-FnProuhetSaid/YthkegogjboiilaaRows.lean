/-
  No cell of these rows narrows 'for every input' (looked for: loops, veiled, ifaces, maps, wideKeys, modest, calm, conditions, laid).
  DERIVED. THE GIVEN ROWS OF THIS SEAT. 11 by the template 'for every input the law returns true; each argument reads behind the call as it read before'; 0 by the template 'total and deterministic' (their statements: YthkegogjboiilaaTotals.lean).
  GIVEN WITH THE SEED: the statements are not yours to turn. If you find one false, say at which input.
  Laid BY PROGRAM, IN A SANDBOX (cutbox-rows.mjs): the forced cells as the released guide's own fill.sh prints them over the translation 7d08e753a6e58ff5… (all of the seat's roots in one cut). By AI agents, Wed Nov 11 2026. No macro, syntax, notation, axiom, sorry.
-/
import Derived.Test.YthkegogjboiilaaChecked
import GoSem.Claim
import GoSem.ClaimJoined
import GoSem.ClaimMapViews
import Derived.JoinedTies
import Derived.KernelRfl
namespace Go.Proofs.Ythkegogjboiilaa
/- THE CELL 'sum', in the pinned program and in every row, IS THE sha256 OF THE DUMP (.gsa) THAT YthkegogjboiilaaProg.lean LOADS. Nothing in Lean hashes anything: it is a label: what it is worth is what the hold of that sum in a sandbox is worth. -/
noncomputable def Try.pinned : Pinned := { name := "ythkegogjboiilaa", sum := "7d08e753a6e58ff50292d1bbb225aea740de4843d2971d817ffee38375538cac", checked := Try.checked }
namespace Rows
def none {H : Type} : Left H := { results := [], args := [] }

/-- 'laws.FnPrefix32': WHATEVER THE INPUT: true; the input reads as it did. -/
def fnPrefix32Spec : ChangeSpec := { name := "fnPrefix32", fn := fun _ => fun
  | [d1, d2, d3] => { results := [.lit (.bool true)], args := [d1, d2, d3] }
  | _ => none }
def fnPrefix32Row : OpenClaim := { program := "ythkegogjboiilaa", sum := "7d08e753a6e58ff50292d1bbb225aea740de4843d2971d817ffee38375538cac", func := "loop.example/lib-carryroads/laws.FnPrefix32", spec := "fnPrefix32", apart := false }
def FnPrefix32Said : Prop := fnPrefix32Row.holds Try.pinned (OpenSpec.ofChange fnPrefix32Spec)

/-- ITS FALSE NEIGHBOUR: 'it returns false'. Refute it at one input. -/
def fnPrefix32Wrong : ChangeSpec := { name := "fnPrefix32", fn := fun _ => fun
  | [d1, d2, d3] => { results := [.lit (.bool false)], args := [d1, d2, d3] }
  | _ => none }
def FnPrefix32WrongFalsely : Prop := fnPrefix32Row.holds Try.pinned (OpenSpec.ofChange fnPrefix32Wrong)

/-- 'laws.FnRotateBits32': WHATEVER THE INPUT: true; the input reads as it did. -/
def fnRotateBits32Spec : ChangeSpec := { name := "fnRotateBits32", fn := fun _ => fun
  | [d1, d2, d3] => { results := [.lit (.bool true)], args := [d1, d2, d3] }
  | _ => none }
def fnRotateBits32Row : OpenClaim := { program := "ythkegogjboiilaa", sum := "7d08e753a6e58ff50292d1bbb225aea740de4843d2971d817ffee38375538cac", func := "loop.example/lib-carryroads/laws.FnRotateBits32", spec := "fnRotateBits32", apart := false }
def FnRotateBits32Said : Prop := fnRotateBits32Row.holds Try.pinned (OpenSpec.ofChange fnRotateBits32Spec)

/-- ITS FALSE NEIGHBOUR: 'it returns false'. Refute it at one input. -/
def fnRotateBits32Wrong : ChangeSpec := { name := "fnRotateBits32", fn := fun _ => fun
  | [d1, d2, d3] => { results := [.lit (.bool false)], args := [d1, d2, d3] }
  | _ => none }
def FnRotateBits32WrongFalsely : Prop := fnRotateBits32Row.holds Try.pinned (OpenSpec.ofChange fnRotateBits32Wrong)

/-- 'laws.FnBytes32': WHATEVER THE INPUT: true; the input reads as it did. -/
def fnBytes32Spec : ChangeSpec := { name := "fnBytes32", fn := fun _ => fun
  | [d] => { results := [.lit (.bool true)], args := [d] }
  | _ => none }
def fnBytes32Row : OpenClaim := { program := "ythkegogjboiilaa", sum := "7d08e753a6e58ff50292d1bbb225aea740de4843d2971d817ffee38375538cac", func := "loop.example/lib-carryroads/laws.FnBytes32", spec := "fnBytes32", apart := false }
def FnBytes32Said : Prop := fnBytes32Row.holds Try.pinned (OpenSpec.ofChange fnBytes32Spec)

/-- ITS FALSE NEIGHBOUR: 'it returns false'. Refute it at one input. -/
def fnBytes32Wrong : ChangeSpec := { name := "fnBytes32", fn := fun _ => fun
  | [d] => { results := [.lit (.bool false)], args := [d] }
  | _ => none }
def FnBytes32WrongFalsely : Prop := fnBytes32Row.holds Try.pinned (OpenSpec.ofChange fnBytes32Wrong)

/-- 'laws.FnBytes64': WHATEVER THE INPUT: true; the input reads as it did. -/
def fnBytes64Spec : ChangeSpec := { name := "fnBytes64", fn := fun _ => fun
  | [d] => { results := [.lit (.bool true)], args := [d] }
  | _ => none }
def fnBytes64Row : OpenClaim := { program := "ythkegogjboiilaa", sum := "7d08e753a6e58ff50292d1bbb225aea740de4843d2971d817ffee38375538cac", func := "loop.example/lib-carryroads/laws.FnBytes64", spec := "fnBytes64", apart := false }
def FnBytes64Said : Prop := fnBytes64Row.holds Try.pinned (OpenSpec.ofChange fnBytes64Spec)

/-- ITS FALSE NEIGHBOUR: 'it returns false'. Refute it at one input. -/
def fnBytes64Wrong : ChangeSpec := { name := "fnBytes64", fn := fun _ => fun
  | [d] => { results := [.lit (.bool false)], args := [d] }
  | _ => none }
def FnBytes64WrongFalsely : Prop := fnBytes64Row.holds Try.pinned (OpenSpec.ofChange fnBytes64Wrong)

/-- 'laws.FnPrefix64': WHATEVER THE INPUT: true; the input reads as it did. -/
def fnPrefix64Spec : ChangeSpec := { name := "fnPrefix64", fn := fun _ => fun
  | [d1, d2, d3] => { results := [.lit (.bool true)], args := [d1, d2, d3] }
  | _ => none }
def fnPrefix64Row : OpenClaim := { program := "ythkegogjboiilaa", sum := "7d08e753a6e58ff50292d1bbb225aea740de4843d2971d817ffee38375538cac", func := "loop.example/lib-carryroads/laws.FnPrefix64", spec := "fnPrefix64", apart := false }
def FnPrefix64Said : Prop := fnPrefix64Row.holds Try.pinned (OpenSpec.ofChange fnPrefix64Spec)

/-- ITS FALSE NEIGHBOUR: 'it returns false'. Refute it at one input. -/
def fnPrefix64Wrong : ChangeSpec := { name := "fnPrefix64", fn := fun _ => fun
  | [d1, d2, d3] => { results := [.lit (.bool false)], args := [d1, d2, d3] }
  | _ => none }
def FnPrefix64WrongFalsely : Prop := fnPrefix64Row.holds Try.pinned (OpenSpec.ofChange fnPrefix64Wrong)

/-- 'laws.FnReverseRotate32': WHATEVER THE INPUT: true; the input reads as it did. -/
def fnReverseRotate32Spec : ChangeSpec := { name := "fnReverseRotate32", fn := fun _ => fun
  | [d1, d2] => { results := [.lit (.bool true)], args := [d1, d2] }
  | _ => none }
def fnReverseRotate32Row : OpenClaim := { program := "ythkegogjboiilaa", sum := "7d08e753a6e58ff50292d1bbb225aea740de4843d2971d817ffee38375538cac", func := "loop.example/lib-carryroads/laws.FnReverseRotate32", spec := "fnReverseRotate32", apart := false }
def FnReverseRotate32Said : Prop := fnReverseRotate32Row.holds Try.pinned (OpenSpec.ofChange fnReverseRotate32Spec)

/-- ITS FALSE NEIGHBOUR: 'it returns false'. Refute it at one input. -/
def fnReverseRotate32Wrong : ChangeSpec := { name := "fnReverseRotate32", fn := fun _ => fun
  | [d1, d2] => { results := [.lit (.bool false)], args := [d1, d2] }
  | _ => none }
def FnReverseRotate32WrongFalsely : Prop := fnReverseRotate32Row.holds Try.pinned (OpenSpec.ofChange fnReverseRotate32Wrong)

/-- 'laws.FnReverseRotate64': WHATEVER THE INPUT: true; the input reads as it did. -/
def fnReverseRotate64Spec : ChangeSpec := { name := "fnReverseRotate64", fn := fun _ => fun
  | [d1, d2] => { results := [.lit (.bool true)], args := [d1, d2] }
  | _ => none }
def fnReverseRotate64Row : OpenClaim := { program := "ythkegogjboiilaa", sum := "7d08e753a6e58ff50292d1bbb225aea740de4843d2971d817ffee38375538cac", func := "loop.example/lib-carryroads/laws.FnReverseRotate64", spec := "fnReverseRotate64", apart := false }
def FnReverseRotate64Said : Prop := fnReverseRotate64Row.holds Try.pinned (OpenSpec.ofChange fnReverseRotate64Spec)

/-- ITS FALSE NEIGHBOUR: 'it returns false'. Refute it at one input. -/
def fnReverseRotate64Wrong : ChangeSpec := { name := "fnReverseRotate64", fn := fun _ => fun
  | [d1, d2] => { results := [.lit (.bool false)], args := [d1, d2] }
  | _ => none }
def FnReverseRotate64WrongFalsely : Prop := fnReverseRotate64Row.holds Try.pinned (OpenSpec.ofChange fnReverseRotate64Wrong)

/-- 'laws.FnReverseCount32': WHATEVER THE INPUT: true; the input reads as it did. -/
def fnReverseCount32Spec : ChangeSpec := { name := "fnReverseCount32", fn := fun _ => fun
  | [d] => { results := [.lit (.bool true)], args := [d] }
  | _ => none }
def fnReverseCount32Row : OpenClaim := { program := "ythkegogjboiilaa", sum := "7d08e753a6e58ff50292d1bbb225aea740de4843d2971d817ffee38375538cac", func := "loop.example/lib-carryroads/laws.FnReverseCount32", spec := "fnReverseCount32", apart := false }
def FnReverseCount32Said : Prop := fnReverseCount32Row.holds Try.pinned (OpenSpec.ofChange fnReverseCount32Spec)

/-- ITS FALSE NEIGHBOUR: 'it returns false'. Refute it at one input. -/
def fnReverseCount32Wrong : ChangeSpec := { name := "fnReverseCount32", fn := fun _ => fun
  | [d] => { results := [.lit (.bool false)], args := [d] }
  | _ => none }
def FnReverseCount32WrongFalsely : Prop := fnReverseCount32Row.holds Try.pinned (OpenSpec.ofChange fnReverseCount32Wrong)

/-- 'laws.FnProuhet': WHATEVER THE INPUT: true; the input reads as it did. -/
def fnProuhetSpec : ChangeSpec := { name := "fnProuhet", fn := fun _ => fun
  | [d1, d2] => { results := [.lit (.bool true)], args := [d1, d2] }
  | _ => none }
def fnProuhetRow : OpenClaim := { program := "ythkegogjboiilaa", sum := "7d08e753a6e58ff50292d1bbb225aea740de4843d2971d817ffee38375538cac", func := "loop.example/lib-carryroads/laws.FnProuhet", spec := "fnProuhet", apart := false }
def FnProuhetSaid : Prop := fnProuhetRow.holds Try.pinned (OpenSpec.ofChange fnProuhetSpec)

/-- ITS FALSE NEIGHBOUR: 'it returns false'. Refute it at one input. -/
def fnProuhetWrong : ChangeSpec := { name := "fnProuhet", fn := fun _ => fun
  | [d1, d2] => { results := [.lit (.bool false)], args := [d1, d2] }
  | _ => none }
def FnProuhetWrongFalsely : Prop := fnProuhetRow.holds Try.pinned (OpenSpec.ofChange fnProuhetWrong)

/-- 'laws.FnReverseCount64': WHATEVER THE INPUT: true; the input reads as it did. -/
def fnReverseCount64Spec : ChangeSpec := { name := "fnReverseCount64", fn := fun _ => fun
  | [d] => { results := [.lit (.bool true)], args := [d] }
  | _ => none }
def fnReverseCount64Row : OpenClaim := { program := "ythkegogjboiilaa", sum := "7d08e753a6e58ff50292d1bbb225aea740de4843d2971d817ffee38375538cac", func := "loop.example/lib-carryroads/laws.FnReverseCount64", spec := "fnReverseCount64", apart := false }
def FnReverseCount64Said : Prop := fnReverseCount64Row.holds Try.pinned (OpenSpec.ofChange fnReverseCount64Spec)

/-- ITS FALSE NEIGHBOUR: 'it returns false'. Refute it at one input. -/
def fnReverseCount64Wrong : ChangeSpec := { name := "fnReverseCount64", fn := fun _ => fun
  | [d] => { results := [.lit (.bool false)], args := [d] }
  | _ => none }
def FnReverseCount64WrongFalsely : Prop := fnReverseCount64Row.holds Try.pinned (OpenSpec.ofChange fnReverseCount64Wrong)

/-- 'laws.FnRotateBits64': WHATEVER THE INPUT: true; the input reads as it did. -/
def fnRotateBits64Spec : ChangeSpec := { name := "fnRotateBits64", fn := fun _ => fun
  | [d1, d2, d3] => { results := [.lit (.bool true)], args := [d1, d2, d3] }
  | _ => none }
def fnRotateBits64Row : OpenClaim := { program := "ythkegogjboiilaa", sum := "7d08e753a6e58ff50292d1bbb225aea740de4843d2971d817ffee38375538cac", func := "loop.example/lib-carryroads/laws.FnRotateBits64", spec := "fnRotateBits64", apart := false }
def FnRotateBits64Said : Prop := fnRotateBits64Row.holds Try.pinned (OpenSpec.ofChange fnRotateBits64Spec)

/-- ITS FALSE NEIGHBOUR: 'it returns false'. Refute it at one input. -/
def fnRotateBits64Wrong : ChangeSpec := { name := "fnRotateBits64", fn := fun _ => fun
  | [d1, d2, d3] => { results := [.lit (.bool false)], args := [d1, d2, d3] }
  | _ => none }
def FnRotateBits64WrongFalsely : Prop := fnRotateBits64Row.holds Try.pinned (OpenSpec.ofChange fnRotateBits64Wrong)

/- THE SECOND FORM. 'bulk': how many values and letters a reading holds, each counted each time it is reached (what is shared counts as often as it is met; a slice's spare places count too). A statement '..UptoSaid' is the law's where the arguments, and the package variables that the reading takes, are together of bulk at most 1048576: NARROWER than '..Said'. Prove '..Said' where nothing that the law and all that it calls make is longer than what came in: it says more and counts as full. Else prove '..UptoSaid'. A law counts once. -/
mutual
def uptoBulk {H : Type} : DataW H → Nat
  | .lit (.string bytes) => bytes.length + 1
  | .lit _ => 1
  | .nil => 1
  | .ptr d => uptoBulk d + 1
  | .slice elems spare => uptoBulkAll elems + uptoBulkAll spare + 1
  | .agg parts => uptoBulkAll parts + 1
  | .iface _ d => uptoBulk d + 1
  | .map entries => uptoBulkEntries entries + 1
  | .held _ => 1
def uptoBulkAll {H : Type} : List (DataW H) → Nat
  | [] => 0
  | d :: r => uptoBulk d + uptoBulkAll r
def uptoBulkEntries {H : Type} : List (Lit × DataW H) → Nat
  | [] => 0
  | x :: r => uptoBulkEntry x + uptoBulkEntries r
def uptoBulkEntry {H : Type} : Lit × DataW H → Nat
  | (.string bytes, d) => bytes.length + uptoBulk d + 1
  | (_, d) => uptoBulk d + 1
 end
def uptoSmall : (H : Type) → List (DataW H) → Bool := fun _ ds => decide (uptoBulkAll ds ≤ 1048576)
def OpenSpec.upto (s : _root_.Go.ChangeSpec) : _root_.Go.OpenSpec := { _root_.Go.OpenSpec.ofChange s with cond := some uptoSmall }

/-- 'laws.FnPrefix32', WHERE WHAT IT READS IS OF BULK AT MOST 1048576: true; the input reads as it did. -/
def fnPrefix32UptoRow : OpenClaim := { program := "ythkegogjboiilaa", sum := "7d08e753a6e58ff50292d1bbb225aea740de4843d2971d817ffee38375538cac", func := "loop.example/lib-carryroads/laws.FnPrefix32", spec := "fnPrefix32", apart := false, narrowed := true }
def FnPrefix32UptoSaid : Prop := fnPrefix32UptoRow.holds Try.pinned (OpenSpec.upto fnPrefix32Spec)

/-- 'laws.FnRotateBits32', WHERE WHAT IT READS IS OF BULK AT MOST 1048576: true; the input reads as it did. -/
def fnRotateBits32UptoRow : OpenClaim := { program := "ythkegogjboiilaa", sum := "7d08e753a6e58ff50292d1bbb225aea740de4843d2971d817ffee38375538cac", func := "loop.example/lib-carryroads/laws.FnRotateBits32", spec := "fnRotateBits32", apart := false, narrowed := true }
def FnRotateBits32UptoSaid : Prop := fnRotateBits32UptoRow.holds Try.pinned (OpenSpec.upto fnRotateBits32Spec)

/-- 'laws.FnBytes32', WHERE WHAT IT READS IS OF BULK AT MOST 1048576: true; the input reads as it did. -/
def fnBytes32UptoRow : OpenClaim := { program := "ythkegogjboiilaa", sum := "7d08e753a6e58ff50292d1bbb225aea740de4843d2971d817ffee38375538cac", func := "loop.example/lib-carryroads/laws.FnBytes32", spec := "fnBytes32", apart := false, narrowed := true }
def FnBytes32UptoSaid : Prop := fnBytes32UptoRow.holds Try.pinned (OpenSpec.upto fnBytes32Spec)

/-- 'laws.FnBytes64', WHERE WHAT IT READS IS OF BULK AT MOST 1048576: true; the input reads as it did. -/
def fnBytes64UptoRow : OpenClaim := { program := "ythkegogjboiilaa", sum := "7d08e753a6e58ff50292d1bbb225aea740de4843d2971d817ffee38375538cac", func := "loop.example/lib-carryroads/laws.FnBytes64", spec := "fnBytes64", apart := false, narrowed := true }
def FnBytes64UptoSaid : Prop := fnBytes64UptoRow.holds Try.pinned (OpenSpec.upto fnBytes64Spec)

/-- 'laws.FnPrefix64', WHERE WHAT IT READS IS OF BULK AT MOST 1048576: true; the input reads as it did. -/
def fnPrefix64UptoRow : OpenClaim := { program := "ythkegogjboiilaa", sum := "7d08e753a6e58ff50292d1bbb225aea740de4843d2971d817ffee38375538cac", func := "loop.example/lib-carryroads/laws.FnPrefix64", spec := "fnPrefix64", apart := false, narrowed := true }
def FnPrefix64UptoSaid : Prop := fnPrefix64UptoRow.holds Try.pinned (OpenSpec.upto fnPrefix64Spec)

/-- 'laws.FnReverseRotate32', WHERE WHAT IT READS IS OF BULK AT MOST 1048576: true; the input reads as it did. -/
def fnReverseRotate32UptoRow : OpenClaim := { program := "ythkegogjboiilaa", sum := "7d08e753a6e58ff50292d1bbb225aea740de4843d2971d817ffee38375538cac", func := "loop.example/lib-carryroads/laws.FnReverseRotate32", spec := "fnReverseRotate32", apart := false, narrowed := true }
def FnReverseRotate32UptoSaid : Prop := fnReverseRotate32UptoRow.holds Try.pinned (OpenSpec.upto fnReverseRotate32Spec)

/-- 'laws.FnReverseRotate64', WHERE WHAT IT READS IS OF BULK AT MOST 1048576: true; the input reads as it did. -/
def fnReverseRotate64UptoRow : OpenClaim := { program := "ythkegogjboiilaa", sum := "7d08e753a6e58ff50292d1bbb225aea740de4843d2971d817ffee38375538cac", func := "loop.example/lib-carryroads/laws.FnReverseRotate64", spec := "fnReverseRotate64", apart := false, narrowed := true }
def FnReverseRotate64UptoSaid : Prop := fnReverseRotate64UptoRow.holds Try.pinned (OpenSpec.upto fnReverseRotate64Spec)

/-- 'laws.FnReverseCount32', WHERE WHAT IT READS IS OF BULK AT MOST 1048576: true; the input reads as it did. -/
def fnReverseCount32UptoRow : OpenClaim := { program := "ythkegogjboiilaa", sum := "7d08e753a6e58ff50292d1bbb225aea740de4843d2971d817ffee38375538cac", func := "loop.example/lib-carryroads/laws.FnReverseCount32", spec := "fnReverseCount32", apart := false, narrowed := true }
def FnReverseCount32UptoSaid : Prop := fnReverseCount32UptoRow.holds Try.pinned (OpenSpec.upto fnReverseCount32Spec)

/-- 'laws.FnProuhet', WHERE WHAT IT READS IS OF BULK AT MOST 1048576: true; the input reads as it did. -/
def fnProuhetUptoRow : OpenClaim := { program := "ythkegogjboiilaa", sum := "7d08e753a6e58ff50292d1bbb225aea740de4843d2971d817ffee38375538cac", func := "loop.example/lib-carryroads/laws.FnProuhet", spec := "fnProuhet", apart := false, narrowed := true }
def FnProuhetUptoSaid : Prop := fnProuhetUptoRow.holds Try.pinned (OpenSpec.upto fnProuhetSpec)

/-- 'laws.FnReverseCount64', WHERE WHAT IT READS IS OF BULK AT MOST 1048576: true; the input reads as it did. -/
def fnReverseCount64UptoRow : OpenClaim := { program := "ythkegogjboiilaa", sum := "7d08e753a6e58ff50292d1bbb225aea740de4843d2971d817ffee38375538cac", func := "loop.example/lib-carryroads/laws.FnReverseCount64", spec := "fnReverseCount64", apart := false, narrowed := true }
def FnReverseCount64UptoSaid : Prop := fnReverseCount64UptoRow.holds Try.pinned (OpenSpec.upto fnReverseCount64Spec)

/-- 'laws.FnRotateBits64', WHERE WHAT IT READS IS OF BULK AT MOST 1048576: true; the input reads as it did. -/
def fnRotateBits64UptoRow : OpenClaim := { program := "ythkegogjboiilaa", sum := "7d08e753a6e58ff50292d1bbb225aea740de4843d2971d817ffee38375538cac", func := "loop.example/lib-carryroads/laws.FnRotateBits64", spec := "fnRotateBits64", apart := false, narrowed := true }
def FnRotateBits64UptoSaid : Prop := fnRotateBits64UptoRow.holds Try.pinned (OpenSpec.upto fnRotateBits64Spec)

end Rows
end Go.Proofs.Ythkegogjboiilaa
