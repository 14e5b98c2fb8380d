/-
  No cell of these rows narrows 'for every input' (looked for: loops, veiled, ifaces, maps, wideKeys, modest, calm, conditions, laid).
  DERIVED. THE GIVEN ROWS OF THIS SEAT. 9 by the template 'for every input the law returns true; each argument reads behind the call as it read before'; 0 by the template 'total and deterministic' (their statements: YtnebokpifgipfaaTotals.lean).
  GIVEN WITH THE SEED: the statements are not yours to turn. If you find one false, say at which input.
  Laid BY PROGRAM, IN A SANDBOX (cutbox-rows.mjs): the forced cells as the released guide's own fill.sh prints them over the translation bac717d0691c9678… (all of the seat's roots in one cut). By AI agents, Wed Nov 11 2026. No macro, syntax, notation, axiom, sorry.
-/
import Derived.Test.YtnebokpifgipfaaChecked
import GoSem.Claim
import GoSem.ClaimJoined
import GoSem.ClaimMapViews
import Derived.JoinedTies
import Derived.KernelRfl
namespace Go.Proofs.Ytnebokpifgipfaa
/- THE CELL 'sum', in the pinned program and in every row, IS THE sha256 OF THE DUMP (.gsa) THAT YtnebokpifgipfaaProg.lean LOADS. Nothing in Lean hashes anything: it is a label: what it is worth is what the hold of that sum in a sandbox is worth. -/
noncomputable def Try.pinned : Pinned := { name := "ytnebokpifgipfaa", sum := "bac717d0691c9678675994a193bc602f135b89a758462083536420d2af24c6ae", checked := Try.checked }
namespace Rows
def none {H : Type} : Left H := { results := [], args := [] }

/-- 'laws.FnJosephus': WHATEVER THE INPUT: true; the input reads as it did. -/
def fnJosephusSpec : ChangeSpec := { name := "fnJosephus", fn := fun _ => fun
  | [d] => { results := [.lit (.bool true)], args := [d] }
  | _ => none }
def fnJosephusRow : OpenClaim := { program := "ytnebokpifgipfaa", sum := "bac717d0691c9678675994a193bc602f135b89a758462083536420d2af24c6ae", func := "loop.example/lib-carryroads/laws.FnJosephus", spec := "fnJosephus", apart := false }
def FnJosephusSaid : Prop := fnJosephusRow.holds Try.pinned (OpenSpec.ofChange fnJosephusSpec)

/-- ITS FALSE NEIGHBOUR: 'it returns false'. Refute it at one input. -/
def fnJosephusWrong : ChangeSpec := { name := "fnJosephus", fn := fun _ => fun
  | [d] => { results := [.lit (.bool false)], args := [d] }
  | _ => none }
def FnJosephusWrongFalsely : Prop := fnJosephusRow.holds Try.pinned (OpenSpec.ofChange fnJosephusWrong)

/-- 'laws.FnUnion8': WHATEVER THE INPUT: true; the input reads as it did. -/
def fnUnion8Spec : ChangeSpec := { name := "fnUnion8", fn := fun _ => fun
  | [d1, d2] => { results := [.lit (.bool true)], args := [d1, d2] }
  | _ => none }
def fnUnion8Row : OpenClaim := { program := "ytnebokpifgipfaa", sum := "bac717d0691c9678675994a193bc602f135b89a758462083536420d2af24c6ae", func := "loop.example/lib-carryroads/laws.FnUnion8", spec := "fnUnion8", apart := false }
def FnUnion8Said : Prop := fnUnion8Row.holds Try.pinned (OpenSpec.ofChange fnUnion8Spec)

/-- ITS FALSE NEIGHBOUR: 'it returns false'. Refute it at one input. -/
def fnUnion8Wrong : ChangeSpec := { name := "fnUnion8", fn := fun _ => fun
  | [d1, d2] => { results := [.lit (.bool false)], args := [d1, d2] }
  | _ => none }
def FnUnion8WrongFalsely : Prop := fnUnion8Row.holds Try.pinned (OpenSpec.ofChange fnUnion8Wrong)

/-- 'laws.FnReverseCount8': WHATEVER THE INPUT: true; the input reads as it did. -/
def fnReverseCount8Spec : ChangeSpec := { name := "fnReverseCount8", fn := fun _ => fun
  | [d] => { results := [.lit (.bool true)], args := [d] }
  | _ => none }
def fnReverseCount8Row : OpenClaim := { program := "ytnebokpifgipfaa", sum := "bac717d0691c9678675994a193bc602f135b89a758462083536420d2af24c6ae", func := "loop.example/lib-carryroads/laws.FnReverseCount8", spec := "fnReverseCount8", apart := false }
def FnReverseCount8Said : Prop := fnReverseCount8Row.holds Try.pinned (OpenSpec.ofChange fnReverseCount8Spec)

/-- ITS FALSE NEIGHBOUR: 'it returns false'. Refute it at one input. -/
def fnReverseCount8Wrong : ChangeSpec := { name := "fnReverseCount8", fn := fun _ => fun
  | [d] => { results := [.lit (.bool false)], args := [d] }
  | _ => none }
def FnReverseCount8WrongFalsely : Prop := fnReverseCount8Row.holds Try.pinned (OpenSpec.ofChange fnReverseCount8Wrong)

/-- 'laws.FnBytes16': WHATEVER THE INPUT: true; the input reads as it did. -/
def fnBytes16Spec : ChangeSpec := { name := "fnBytes16", fn := fun _ => fun
  | [d] => { results := [.lit (.bool true)], args := [d] }
  | _ => none }
def fnBytes16Row : OpenClaim := { program := "ytnebokpifgipfaa", sum := "bac717d0691c9678675994a193bc602f135b89a758462083536420d2af24c6ae", func := "loop.example/lib-carryroads/laws.FnBytes16", spec := "fnBytes16", apart := false }
def FnBytes16Said : Prop := fnBytes16Row.holds Try.pinned (OpenSpec.ofChange fnBytes16Spec)

/-- ITS FALSE NEIGHBOUR: 'it returns false'. Refute it at one input. -/
def fnBytes16Wrong : ChangeSpec := { name := "fnBytes16", fn := fun _ => fun
  | [d] => { results := [.lit (.bool false)], args := [d] }
  | _ => none }
def FnBytes16WrongFalsely : Prop := fnBytes16Row.holds Try.pinned (OpenSpec.ofChange fnBytes16Wrong)

/-- 'laws.FnReverseRotate16': WHATEVER THE INPUT: true; the input reads as it did. -/
def fnReverseRotate16Spec : ChangeSpec := { name := "fnReverseRotate16", fn := fun _ => fun
  | [d1, d2] => { results := [.lit (.bool true)], args := [d1, d2] }
  | _ => none }
def fnReverseRotate16Row : OpenClaim := { program := "ytnebokpifgipfaa", sum := "bac717d0691c9678675994a193bc602f135b89a758462083536420d2af24c6ae", func := "loop.example/lib-carryroads/laws.FnReverseRotate16", spec := "fnReverseRotate16", apart := false }
def FnReverseRotate16Said : Prop := fnReverseRotate16Row.holds Try.pinned (OpenSpec.ofChange fnReverseRotate16Spec)

/-- ITS FALSE NEIGHBOUR: 'it returns false'. Refute it at one input. -/
def fnReverseRotate16Wrong : ChangeSpec := { name := "fnReverseRotate16", fn := fun _ => fun
  | [d1, d2] => { results := [.lit (.bool false)], args := [d1, d2] }
  | _ => none }
def FnReverseRotate16WrongFalsely : Prop := fnReverseRotate16Row.holds Try.pinned (OpenSpec.ofChange fnReverseRotate16Wrong)

/-- 'laws.FnReverseRotate8': WHATEVER THE INPUT: true; the input reads as it did. -/
def fnReverseRotate8Spec : ChangeSpec := { name := "fnReverseRotate8", fn := fun _ => fun
  | [d1, d2] => { results := [.lit (.bool true)], args := [d1, d2] }
  | _ => none }
def fnReverseRotate8Row : OpenClaim := { program := "ytnebokpifgipfaa", sum := "bac717d0691c9678675994a193bc602f135b89a758462083536420d2af24c6ae", func := "loop.example/lib-carryroads/laws.FnReverseRotate8", spec := "fnReverseRotate8", apart := false }
def FnReverseRotate8Said : Prop := fnReverseRotate8Row.holds Try.pinned (OpenSpec.ofChange fnReverseRotate8Spec)

/-- ITS FALSE NEIGHBOUR: 'it returns false'. Refute it at one input. -/
def fnReverseRotate8Wrong : ChangeSpec := { name := "fnReverseRotate8", fn := fun _ => fun
  | [d1, d2] => { results := [.lit (.bool false)], args := [d1, d2] }
  | _ => none }
def FnReverseRotate8WrongFalsely : Prop := fnReverseRotate8Row.holds Try.pinned (OpenSpec.ofChange fnReverseRotate8Wrong)

/-- 'laws.FnRotateBits16': WHATEVER THE INPUT: true; the input reads as it did. -/
def fnRotateBits16Spec : ChangeSpec := { name := "fnRotateBits16", fn := fun _ => fun
  | [d1, d2, d3] => { results := [.lit (.bool true)], args := [d1, d2, d3] }
  | _ => none }
def fnRotateBits16Row : OpenClaim := { program := "ytnebokpifgipfaa", sum := "bac717d0691c9678675994a193bc602f135b89a758462083536420d2af24c6ae", func := "loop.example/lib-carryroads/laws.FnRotateBits16", spec := "fnRotateBits16", apart := false }
def FnRotateBits16Said : Prop := fnRotateBits16Row.holds Try.pinned (OpenSpec.ofChange fnRotateBits16Spec)

/-- ITS FALSE NEIGHBOUR: 'it returns false'. Refute it at one input. -/
def fnRotateBits16Wrong : ChangeSpec := { name := "fnRotateBits16", fn := fun _ => fun
  | [d1, d2, d3] => { results := [.lit (.bool false)], args := [d1, d2, d3] }
  | _ => none }
def FnRotateBits16WrongFalsely : Prop := fnRotateBits16Row.holds Try.pinned (OpenSpec.ofChange fnRotateBits16Wrong)

/-- 'laws.FnRotateBits8': WHATEVER THE INPUT: true; the input reads as it did. -/
def fnRotateBits8Spec : ChangeSpec := { name := "fnRotateBits8", fn := fun _ => fun
  | [d1, d2, d3] => { results := [.lit (.bool true)], args := [d1, d2, d3] }
  | _ => none }
def fnRotateBits8Row : OpenClaim := { program := "ytnebokpifgipfaa", sum := "bac717d0691c9678675994a193bc602f135b89a758462083536420d2af24c6ae", func := "loop.example/lib-carryroads/laws.FnRotateBits8", spec := "fnRotateBits8", apart := false }
def FnRotateBits8Said : Prop := fnRotateBits8Row.holds Try.pinned (OpenSpec.ofChange fnRotateBits8Spec)

/-- ITS FALSE NEIGHBOUR: 'it returns false'. Refute it at one input. -/
def fnRotateBits8Wrong : ChangeSpec := { name := "fnRotateBits8", fn := fun _ => fun
  | [d1, d2, d3] => { results := [.lit (.bool false)], args := [d1, d2, d3] }
  | _ => none }
def FnRotateBits8WrongFalsely : Prop := fnRotateBits8Row.holds Try.pinned (OpenSpec.ofChange fnRotateBits8Wrong)

/-- 'laws.FnReverseCount16': WHATEVER THE INPUT: true; the input reads as it did. -/
def fnReverseCount16Spec : ChangeSpec := { name := "fnReverseCount16", fn := fun _ => fun
  | [d] => { results := [.lit (.bool true)], args := [d] }
  | _ => none }
def fnReverseCount16Row : OpenClaim := { program := "ytnebokpifgipfaa", sum := "bac717d0691c9678675994a193bc602f135b89a758462083536420d2af24c6ae", func := "loop.example/lib-carryroads/laws.FnReverseCount16", spec := "fnReverseCount16", apart := false }
def FnReverseCount16Said : Prop := fnReverseCount16Row.holds Try.pinned (OpenSpec.ofChange fnReverseCount16Spec)

/-- ITS FALSE NEIGHBOUR: 'it returns false'. Refute it at one input. -/
def fnReverseCount16Wrong : ChangeSpec := { name := "fnReverseCount16", fn := fun _ => fun
  | [d] => { results := [.lit (.bool false)], args := [d] }
  | _ => none }
def FnReverseCount16WrongFalsely : Prop := fnReverseCount16Row.holds Try.pinned (OpenSpec.ofChange fnReverseCount16Wrong)

/- THE SECOND FORM. 'bulk': how many values and letters a reading holds, each counted each time it is reached (what is shared counts as often as it is met; a slice's spare places count too). A statement '..UptoSaid' is the law's where the arguments, and the package variables that the reading takes, are together of bulk at most 1048576: NARROWER than '..Said'. Prove '..Said' where nothing that the law and all that it calls make is longer than what came in: it says more and counts as full. Else prove '..UptoSaid'. A law counts once. -/
mutual
def uptoBulk {H : Type} : DataW H → Nat
  | .lit (.string bytes) => bytes.length + 1
  | .lit _ => 1
  | .nil => 1
  | .ptr d => uptoBulk d + 1
  | .slice elems spare => uptoBulkAll elems + uptoBulkAll spare + 1
  | .agg parts => uptoBulkAll parts + 1
  | .iface _ d => uptoBulk d + 1
  | .map entries => uptoBulkEntries entries + 1
  | .held _ => 1
def uptoBulkAll {H : Type} : List (DataW H) → Nat
  | [] => 0
  | d :: r => uptoBulk d + uptoBulkAll r
def uptoBulkEntries {H : Type} : List (Lit × DataW H) → Nat
  | [] => 0
  | x :: r => uptoBulkEntry x + uptoBulkEntries r
def uptoBulkEntry {H : Type} : Lit × DataW H → Nat
  | (.string bytes, d) => bytes.length + uptoBulk d + 1
  | (_, d) => uptoBulk d + 1
 end
def uptoSmall : (H : Type) → List (DataW H) → Bool := fun _ ds => decide (uptoBulkAll ds ≤ 1048576)
def OpenSpec.upto (s : _root_.Go.ChangeSpec) : _root_.Go.OpenSpec := { _root_.Go.OpenSpec.ofChange s with cond := some uptoSmall }

/-- 'laws.FnJosephus', WHERE WHAT IT READS IS OF BULK AT MOST 1048576: true; the input reads as it did. -/
def fnJosephusUptoRow : OpenClaim := { program := "ytnebokpifgipfaa", sum := "bac717d0691c9678675994a193bc602f135b89a758462083536420d2af24c6ae", func := "loop.example/lib-carryroads/laws.FnJosephus", spec := "fnJosephus", apart := false, narrowed := true }
def FnJosephusUptoSaid : Prop := fnJosephusUptoRow.holds Try.pinned (OpenSpec.upto fnJosephusSpec)

/-- 'laws.FnUnion8', WHERE WHAT IT READS IS OF BULK AT MOST 1048576: true; the input reads as it did. -/
def fnUnion8UptoRow : OpenClaim := { program := "ytnebokpifgipfaa", sum := "bac717d0691c9678675994a193bc602f135b89a758462083536420d2af24c6ae", func := "loop.example/lib-carryroads/laws.FnUnion8", spec := "fnUnion8", apart := false, narrowed := true }
def FnUnion8UptoSaid : Prop := fnUnion8UptoRow.holds Try.pinned (OpenSpec.upto fnUnion8Spec)

/-- 'laws.FnReverseCount8', WHERE WHAT IT READS IS OF BULK AT MOST 1048576: true; the input reads as it did. -/
def fnReverseCount8UptoRow : OpenClaim := { program := "ytnebokpifgipfaa", sum := "bac717d0691c9678675994a193bc602f135b89a758462083536420d2af24c6ae", func := "loop.example/lib-carryroads/laws.FnReverseCount8", spec := "fnReverseCount8", apart := false, narrowed := true }
def FnReverseCount8UptoSaid : Prop := fnReverseCount8UptoRow.holds Try.pinned (OpenSpec.upto fnReverseCount8Spec)

/-- 'laws.FnBytes16', WHERE WHAT IT READS IS OF BULK AT MOST 1048576: true; the input reads as it did. -/
def fnBytes16UptoRow : OpenClaim := { program := "ytnebokpifgipfaa", sum := "bac717d0691c9678675994a193bc602f135b89a758462083536420d2af24c6ae", func := "loop.example/lib-carryroads/laws.FnBytes16", spec := "fnBytes16", apart := false, narrowed := true }
def FnBytes16UptoSaid : Prop := fnBytes16UptoRow.holds Try.pinned (OpenSpec.upto fnBytes16Spec)

/-- 'laws.FnReverseRotate16', WHERE WHAT IT READS IS OF BULK AT MOST 1048576: true; the input reads as it did. -/
def fnReverseRotate16UptoRow : OpenClaim := { program := "ytnebokpifgipfaa", sum := "bac717d0691c9678675994a193bc602f135b89a758462083536420d2af24c6ae", func := "loop.example/lib-carryroads/laws.FnReverseRotate16", spec := "fnReverseRotate16", apart := false, narrowed := true }
def FnReverseRotate16UptoSaid : Prop := fnReverseRotate16UptoRow.holds Try.pinned (OpenSpec.upto fnReverseRotate16Spec)

/-- 'laws.FnReverseRotate8', WHERE WHAT IT READS IS OF BULK AT MOST 1048576: true; the input reads as it did. -/
def fnReverseRotate8UptoRow : OpenClaim := { program := "ytnebokpifgipfaa", sum := "bac717d0691c9678675994a193bc602f135b89a758462083536420d2af24c6ae", func := "loop.example/lib-carryroads/laws.FnReverseRotate8", spec := "fnReverseRotate8", apart := false, narrowed := true }
def FnReverseRotate8UptoSaid : Prop := fnReverseRotate8UptoRow.holds Try.pinned (OpenSpec.upto fnReverseRotate8Spec)

/-- 'laws.FnRotateBits16', WHERE WHAT IT READS IS OF BULK AT MOST 1048576: true; the input reads as it did. -/
def fnRotateBits16UptoRow : OpenClaim := { program := "ytnebokpifgipfaa", sum := "bac717d0691c9678675994a193bc602f135b89a758462083536420d2af24c6ae", func := "loop.example/lib-carryroads/laws.FnRotateBits16", spec := "fnRotateBits16", apart := false, narrowed := true }
def FnRotateBits16UptoSaid : Prop := fnRotateBits16UptoRow.holds Try.pinned (OpenSpec.upto fnRotateBits16Spec)

/-- 'laws.FnRotateBits8', WHERE WHAT IT READS IS OF BULK AT MOST 1048576: true; the input reads as it did. -/
def fnRotateBits8UptoRow : OpenClaim := { program := "ytnebokpifgipfaa", sum := "bac717d0691c9678675994a193bc602f135b89a758462083536420d2af24c6ae", func := "loop.example/lib-carryroads/laws.FnRotateBits8", spec := "fnRotateBits8", apart := false, narrowed := true }
def FnRotateBits8UptoSaid : Prop := fnRotateBits8UptoRow.holds Try.pinned (OpenSpec.upto fnRotateBits8Spec)

/-- 'laws.FnReverseCount16', WHERE WHAT IT READS IS OF BULK AT MOST 1048576: true; the input reads as it did. -/
def fnReverseCount16UptoRow : OpenClaim := { program := "ytnebokpifgipfaa", sum := "bac717d0691c9678675994a193bc602f135b89a758462083536420d2af24c6ae", func := "loop.example/lib-carryroads/laws.FnReverseCount16", spec := "fnReverseCount16", apart := false, narrowed := true }
def FnReverseCount16UptoSaid : Prop := fnReverseCount16UptoRow.holds Try.pinned (OpenSpec.upto fnReverseCount16Spec)

end Rows
end Go.Proofs.Ytnebokpifgipfaa
