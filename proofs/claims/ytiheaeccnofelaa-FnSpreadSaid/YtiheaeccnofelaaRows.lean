/-
  No cell of these rows narrows 'for every input' (looked for: loops, veiled, ifaces, maps, wideKeys, modest, calm, conditions, laid).
  DERIVED. THE GIVEN ROWS OF THIS SEAT. 11 by the template 'for every input the law returns true; each argument reads behind the call as it read before'; 0 by the template 'total and deterministic' (their statements: YtiheaeccnofelaaTotals.lean).
  GIVEN WITH THE SEED: the statements are not yours to turn. If you find one false, say at which input.
  Laid BY PROGRAM, IN A SANDBOX (cutbox-rows.mjs): the forced cells as the released guide's own fill.sh prints them over the translation e33a7d1a719e9416… (all of the seat's roots in one cut). By AI agents, Wed Nov 11 2026. No macro, syntax, notation, axiom, sorry.
-/
import Derived.Test.YtiheaeccnofelaaChecked
import GoSem.Claim
import GoSem.ClaimJoined
import GoSem.ClaimMapViews
import Derived.JoinedTies
import Derived.KernelRfl
namespace Go.Proofs.Ytiheaeccnofelaa
/- THE CELL 'sum', in the pinned program and in every row, IS THE sha256 OF THE DUMP (.gsa) THAT YtiheaeccnofelaaProg.lean LOADS. Nothing in Lean hashes anything: it is a label: what it is worth is what the hold of that sum in a sandbox is worth. -/
noncomputable def Try.pinned : Pinned := { name := "ytiheaeccnofelaa", sum := "e33a7d1a719e94163576b1e9e4ad6afa95e3da70d91af8d8f96980d582dc4bb0", checked := Try.checked }
namespace Rows
def none {H : Type} : Left H := { results := [], args := [] }

/-- 'laws.FnRotateBits': WHATEVER THE INPUT: true; the input reads as it did. -/
def fnRotateBitsSpec : ChangeSpec := { name := "fnRotateBits", fn := fun _ => fun
  | [d1, d2, d3] => { results := [.lit (.bool true)], args := [d1, d2, d3] }
  | _ => none }
def fnRotateBitsRow : OpenClaim := { program := "ytiheaeccnofelaa", sum := "e33a7d1a719e94163576b1e9e4ad6afa95e3da70d91af8d8f96980d582dc4bb0", func := "loop.example/lib-carryroads/laws.FnRotateBits", spec := "fnRotateBits", apart := false }
def FnRotateBitsSaid : Prop := fnRotateBitsRow.holds Try.pinned (OpenSpec.ofChange fnRotateBitsSpec)

/-- ITS FALSE NEIGHBOUR: 'it returns false'. Refute it at one input. -/
def fnRotateBitsWrong : ChangeSpec := { name := "fnRotateBits", fn := fun _ => fun
  | [d1, d2, d3] => { results := [.lit (.bool false)], args := [d1, d2, d3] }
  | _ => none }
def FnRotateBitsWrongFalsely : Prop := fnRotateBitsRow.holds Try.pinned (OpenSpec.ofChange fnRotateBitsWrong)

/-- 'laws.FnReverseCount': WHATEVER THE INPUT: true; the input reads as it did. -/
def fnReverseCountSpec : ChangeSpec := { name := "fnReverseCount", fn := fun _ => fun
  | [d] => { results := [.lit (.bool true)], args := [d] }
  | _ => none }
def fnReverseCountRow : OpenClaim := { program := "ytiheaeccnofelaa", sum := "e33a7d1a719e94163576b1e9e4ad6afa95e3da70d91af8d8f96980d582dc4bb0", func := "loop.example/lib-carryroads/laws.FnReverseCount", spec := "fnReverseCount", apart := false }
def FnReverseCountSaid : Prop := fnReverseCountRow.holds Try.pinned (OpenSpec.ofChange fnReverseCountSpec)

/-- ITS FALSE NEIGHBOUR: 'it returns false'. Refute it at one input. -/
def fnReverseCountWrong : ChangeSpec := { name := "fnReverseCount", fn := fun _ => fun
  | [d] => { results := [.lit (.bool false)], args := [d] }
  | _ => none }
def FnReverseCountWrongFalsely : Prop := fnReverseCountRow.holds Try.pinned (OpenSpec.ofChange fnReverseCountWrong)

/-- 'laws.FnSpread': WHATEVER THE INPUT: true; the input reads as it did. -/
def fnSpreadSpec : ChangeSpec := { name := "fnSpread", fn := fun _ => fun
  | [d1, d2, d3] => { results := [.lit (.bool true)], args := [d1, d2, d3] }
  | _ => none }
def fnSpreadRow : OpenClaim := { program := "ytiheaeccnofelaa", sum := "e33a7d1a719e94163576b1e9e4ad6afa95e3da70d91af8d8f96980d582dc4bb0", func := "loop.example/lib-carryroads/laws.FnSpread", spec := "fnSpread", apart := false }
def FnSpreadSaid : Prop := fnSpreadRow.holds Try.pinned (OpenSpec.ofChange fnSpreadSpec)

/-- ITS FALSE NEIGHBOUR: 'it returns false'. Refute it at one input. -/
def fnSpreadWrong : ChangeSpec := { name := "fnSpread", fn := fun _ => fun
  | [d1, d2, d3] => { results := [.lit (.bool false)], args := [d1, d2, d3] }
  | _ => none }
def FnSpreadWrongFalsely : Prop := fnSpreadRow.holds Try.pinned (OpenSpec.ofChange fnSpreadWrong)

/-- 'laws.FnUintRotateLeft': WHATEVER THE INPUT: true; the input reads as it did. -/
def fnUintRotateLeftSpec : ChangeSpec := { name := "fnUintRotateLeft", fn := fun _ => fun
  | [d1, d2] => { results := [.lit (.bool true)], args := [d1, d2] }
  | _ => none }
def fnUintRotateLeftRow : OpenClaim := { program := "ytiheaeccnofelaa", sum := "e33a7d1a719e94163576b1e9e4ad6afa95e3da70d91af8d8f96980d582dc4bb0", func := "loop.example/lib-carryroads/laws.FnUintRotateLeft", spec := "fnUintRotateLeft", apart := false }
def FnUintRotateLeftSaid : Prop := fnUintRotateLeftRow.holds Try.pinned (OpenSpec.ofChange fnUintRotateLeftSpec)

/-- ITS FALSE NEIGHBOUR: 'it returns false'. Refute it at one input. -/
def fnUintRotateLeftWrong : ChangeSpec := { name := "fnUintRotateLeft", fn := fun _ => fun
  | [d1, d2] => { results := [.lit (.bool false)], args := [d1, d2] }
  | _ => none }
def FnUintRotateLeftWrongFalsely : Prop := fnUintRotateLeftRow.holds Try.pinned (OpenSpec.ofChange fnUintRotateLeftWrong)

/-- 'laws.FnUintReverseBytes': WHATEVER THE INPUT: true; the input reads as it did. -/
def fnUintReverseBytesSpec : ChangeSpec := { name := "fnUintReverseBytes", fn := fun _ => fun
  | [d] => { results := [.lit (.bool true)], args := [d] }
  | _ => none }
def fnUintReverseBytesRow : OpenClaim := { program := "ytiheaeccnofelaa", sum := "e33a7d1a719e94163576b1e9e4ad6afa95e3da70d91af8d8f96980d582dc4bb0", func := "loop.example/lib-carryroads/laws.FnUintReverseBytes", spec := "fnUintReverseBytes", apart := false }
def FnUintReverseBytesSaid : Prop := fnUintReverseBytesRow.holds Try.pinned (OpenSpec.ofChange fnUintReverseBytesSpec)

/-- ITS FALSE NEIGHBOUR: 'it returns false'. Refute it at one input. -/
def fnUintReverseBytesWrong : ChangeSpec := { name := "fnUintReverseBytes", fn := fun _ => fun
  | [d] => { results := [.lit (.bool false)], args := [d] }
  | _ => none }
def FnUintReverseBytesWrongFalsely : Prop := fnUintReverseBytesRow.holds Try.pinned (OpenSpec.ofChange fnUintReverseBytesWrong)

/-- 'laws.FnPrefix': WHATEVER THE INPUT: true; the input reads as it did. -/
def fnPrefixSpec : ChangeSpec := { name := "fnPrefix", fn := fun _ => fun
  | [d1, d2, d3] => { results := [.lit (.bool true)], args := [d1, d2, d3] }
  | _ => none }
def fnPrefixRow : OpenClaim := { program := "ytiheaeccnofelaa", sum := "e33a7d1a719e94163576b1e9e4ad6afa95e3da70d91af8d8f96980d582dc4bb0", func := "loop.example/lib-carryroads/laws.FnPrefix", spec := "fnPrefix", apart := false }
def FnPrefixSaid : Prop := fnPrefixRow.holds Try.pinned (OpenSpec.ofChange fnPrefixSpec)

/-- ITS FALSE NEIGHBOUR: 'it returns false'. Refute it at one input. -/
def fnPrefixWrong : ChangeSpec := { name := "fnPrefix", fn := fun _ => fun
  | [d1, d2, d3] => { results := [.lit (.bool false)], args := [d1, d2, d3] }
  | _ => none }
def FnPrefixWrongFalsely : Prop := fnPrefixRow.holds Try.pinned (OpenSpec.ofChange fnPrefixWrong)

/-- 'laws.FnUintReverse': WHATEVER THE INPUT: true; the input reads as it did. -/
def fnUintReverseSpec : ChangeSpec := { name := "fnUintReverse", fn := fun _ => fun
  | [d] => { results := [.lit (.bool true)], args := [d] }
  | _ => none }
def fnUintReverseRow : OpenClaim := { program := "ytiheaeccnofelaa", sum := "e33a7d1a719e94163576b1e9e4ad6afa95e3da70d91af8d8f96980d582dc4bb0", func := "loop.example/lib-carryroads/laws.FnUintReverse", spec := "fnUintReverse", apart := false }
def FnUintReverseSaid : Prop := fnUintReverseRow.holds Try.pinned (OpenSpec.ofChange fnUintReverseSpec)

/-- ITS FALSE NEIGHBOUR: 'it returns false'. Refute it at one input. -/
def fnUintReverseWrong : ChangeSpec := { name := "fnUintReverse", fn := fun _ => fun
  | [d] => { results := [.lit (.bool false)], args := [d] }
  | _ => none }
def FnUintReverseWrongFalsely : Prop := fnUintReverseRow.holds Try.pinned (OpenSpec.ofChange fnUintReverseWrong)

/-- 'laws.FnUintLen': WHATEVER THE INPUT: true; the input reads as it did. -/
def fnUintLenSpec : ChangeSpec := { name := "fnUintLen", fn := fun _ => fun
  | [d] => { results := [.lit (.bool true)], args := [d] }
  | _ => none }
def fnUintLenRow : OpenClaim := { program := "ytiheaeccnofelaa", sum := "e33a7d1a719e94163576b1e9e4ad6afa95e3da70d91af8d8f96980d582dc4bb0", func := "loop.example/lib-carryroads/laws.FnUintLen", spec := "fnUintLen", apart := false }
def FnUintLenSaid : Prop := fnUintLenRow.holds Try.pinned (OpenSpec.ofChange fnUintLenSpec)

/-- ITS FALSE NEIGHBOUR: 'it returns false'. Refute it at one input. -/
def fnUintLenWrong : ChangeSpec := { name := "fnUintLen", fn := fun _ => fun
  | [d] => { results := [.lit (.bool false)], args := [d] }
  | _ => none }
def FnUintLenWrongFalsely : Prop := fnUintLenRow.holds Try.pinned (OpenSpec.ofChange fnUintLenWrong)

/-- 'laws.FnUintLeadingZeros': WHATEVER THE INPUT: true; the input reads as it did. -/
def fnUintLeadingZerosSpec : ChangeSpec := { name := "fnUintLeadingZeros", fn := fun _ => fun
  | [d] => { results := [.lit (.bool true)], args := [d] }
  | _ => none }
def fnUintLeadingZerosRow : OpenClaim := { program := "ytiheaeccnofelaa", sum := "e33a7d1a719e94163576b1e9e4ad6afa95e3da70d91af8d8f96980d582dc4bb0", func := "loop.example/lib-carryroads/laws.FnUintLeadingZeros", spec := "fnUintLeadingZeros", apart := false }
def FnUintLeadingZerosSaid : Prop := fnUintLeadingZerosRow.holds Try.pinned (OpenSpec.ofChange fnUintLeadingZerosSpec)

/-- ITS FALSE NEIGHBOUR: 'it returns false'. Refute it at one input. -/
def fnUintLeadingZerosWrong : ChangeSpec := { name := "fnUintLeadingZeros", fn := fun _ => fun
  | [d] => { results := [.lit (.bool false)], args := [d] }
  | _ => none }
def FnUintLeadingZerosWrongFalsely : Prop := fnUintLeadingZerosRow.holds Try.pinned (OpenSpec.ofChange fnUintLeadingZerosWrong)

/-- 'laws.FnUintOnesCount': WHATEVER THE INPUT: true; the input reads as it did. -/
def fnUintOnesCountSpec : ChangeSpec := { name := "fnUintOnesCount", fn := fun _ => fun
  | [d] => { results := [.lit (.bool true)], args := [d] }
  | _ => none }
def fnUintOnesCountRow : OpenClaim := { program := "ytiheaeccnofelaa", sum := "e33a7d1a719e94163576b1e9e4ad6afa95e3da70d91af8d8f96980d582dc4bb0", func := "loop.example/lib-carryroads/laws.FnUintOnesCount", spec := "fnUintOnesCount", apart := false }
def FnUintOnesCountSaid : Prop := fnUintOnesCountRow.holds Try.pinned (OpenSpec.ofChange fnUintOnesCountSpec)

/-- ITS FALSE NEIGHBOUR: 'it returns false'. Refute it at one input. -/
def fnUintOnesCountWrong : ChangeSpec := { name := "fnUintOnesCount", fn := fun _ => fun
  | [d] => { results := [.lit (.bool false)], args := [d] }
  | _ => none }
def FnUintOnesCountWrongFalsely : Prop := fnUintOnesCountRow.holds Try.pinned (OpenSpec.ofChange fnUintOnesCountWrong)

/-- 'laws.FnReverseRotate': WHATEVER THE INPUT: true; the input reads as it did. -/
def fnReverseRotateSpec : ChangeSpec := { name := "fnReverseRotate", fn := fun _ => fun
  | [d1, d2] => { results := [.lit (.bool true)], args := [d1, d2] }
  | _ => none }
def fnReverseRotateRow : OpenClaim := { program := "ytiheaeccnofelaa", sum := "e33a7d1a719e94163576b1e9e4ad6afa95e3da70d91af8d8f96980d582dc4bb0", func := "loop.example/lib-carryroads/laws.FnReverseRotate", spec := "fnReverseRotate", apart := false }
def FnReverseRotateSaid : Prop := fnReverseRotateRow.holds Try.pinned (OpenSpec.ofChange fnReverseRotateSpec)

/-- ITS FALSE NEIGHBOUR: 'it returns false'. Refute it at one input. -/
def fnReverseRotateWrong : ChangeSpec := { name := "fnReverseRotate", fn := fun _ => fun
  | [d1, d2] => { results := [.lit (.bool false)], args := [d1, d2] }
  | _ => none }
def FnReverseRotateWrongFalsely : Prop := fnReverseRotateRow.holds Try.pinned (OpenSpec.ofChange fnReverseRotateWrong)

/- THE SECOND FORM. 'bulk': how many values and letters a reading holds, each counted each time it is reached (what is shared counts as often as it is met; a slice's spare places count too). A statement '..UptoSaid' is the law's where the arguments, and the package variables that the reading takes, are together of bulk at most 1048576: NARROWER than '..Said'. Prove '..Said' where nothing that the law and all that it calls make is longer than what came in: it says more and counts as full. Else prove '..UptoSaid'. A law counts once. -/
mutual
def uptoBulk {H : Type} : DataW H → Nat
  | .lit (.string bytes) => bytes.length + 1
  | .lit _ => 1
  | .nil => 1
  | .ptr d => uptoBulk d + 1
  | .slice elems spare => uptoBulkAll elems + uptoBulkAll spare + 1
  | .agg parts => uptoBulkAll parts + 1
  | .iface _ d => uptoBulk d + 1
  | .map entries => uptoBulkEntries entries + 1
  | .held _ => 1
def uptoBulkAll {H : Type} : List (DataW H) → Nat
  | [] => 0
  | d :: r => uptoBulk d + uptoBulkAll r
def uptoBulkEntries {H : Type} : List (Lit × DataW H) → Nat
  | [] => 0
  | x :: r => uptoBulkEntry x + uptoBulkEntries r
def uptoBulkEntry {H : Type} : Lit × DataW H → Nat
  | (.string bytes, d) => bytes.length + uptoBulk d + 1
  | (_, d) => uptoBulk d + 1
 end
def uptoSmall : (H : Type) → List (DataW H) → Bool := fun _ ds => decide (uptoBulkAll ds ≤ 1048576)
def OpenSpec.upto (s : _root_.Go.ChangeSpec) : _root_.Go.OpenSpec := { _root_.Go.OpenSpec.ofChange s with cond := some uptoSmall }

/-- 'laws.FnRotateBits', WHERE WHAT IT READS IS OF BULK AT MOST 1048576: true; the input reads as it did. -/
def fnRotateBitsUptoRow : OpenClaim := { program := "ytiheaeccnofelaa", sum := "e33a7d1a719e94163576b1e9e4ad6afa95e3da70d91af8d8f96980d582dc4bb0", func := "loop.example/lib-carryroads/laws.FnRotateBits", spec := "fnRotateBits", apart := false, narrowed := true }
def FnRotateBitsUptoSaid : Prop := fnRotateBitsUptoRow.holds Try.pinned (OpenSpec.upto fnRotateBitsSpec)

/-- 'laws.FnReverseCount', WHERE WHAT IT READS IS OF BULK AT MOST 1048576: true; the input reads as it did. -/
def fnReverseCountUptoRow : OpenClaim := { program := "ytiheaeccnofelaa", sum := "e33a7d1a719e94163576b1e9e4ad6afa95e3da70d91af8d8f96980d582dc4bb0", func := "loop.example/lib-carryroads/laws.FnReverseCount", spec := "fnReverseCount", apart := false, narrowed := true }
def FnReverseCountUptoSaid : Prop := fnReverseCountUptoRow.holds Try.pinned (OpenSpec.upto fnReverseCountSpec)

/-- 'laws.FnSpread', WHERE WHAT IT READS IS OF BULK AT MOST 1048576: true; the input reads as it did. -/
def fnSpreadUptoRow : OpenClaim := { program := "ytiheaeccnofelaa", sum := "e33a7d1a719e94163576b1e9e4ad6afa95e3da70d91af8d8f96980d582dc4bb0", func := "loop.example/lib-carryroads/laws.FnSpread", spec := "fnSpread", apart := false, narrowed := true }
def FnSpreadUptoSaid : Prop := fnSpreadUptoRow.holds Try.pinned (OpenSpec.upto fnSpreadSpec)

/-- 'laws.FnUintRotateLeft', WHERE WHAT IT READS IS OF BULK AT MOST 1048576: true; the input reads as it did. -/
def fnUintRotateLeftUptoRow : OpenClaim := { program := "ytiheaeccnofelaa", sum := "e33a7d1a719e94163576b1e9e4ad6afa95e3da70d91af8d8f96980d582dc4bb0", func := "loop.example/lib-carryroads/laws.FnUintRotateLeft", spec := "fnUintRotateLeft", apart := false, narrowed := true }
def FnUintRotateLeftUptoSaid : Prop := fnUintRotateLeftUptoRow.holds Try.pinned (OpenSpec.upto fnUintRotateLeftSpec)

/-- 'laws.FnUintReverseBytes', WHERE WHAT IT READS IS OF BULK AT MOST 1048576: true; the input reads as it did. -/
def fnUintReverseBytesUptoRow : OpenClaim := { program := "ytiheaeccnofelaa", sum := "e33a7d1a719e94163576b1e9e4ad6afa95e3da70d91af8d8f96980d582dc4bb0", func := "loop.example/lib-carryroads/laws.FnUintReverseBytes", spec := "fnUintReverseBytes", apart := false, narrowed := true }
def FnUintReverseBytesUptoSaid : Prop := fnUintReverseBytesUptoRow.holds Try.pinned (OpenSpec.upto fnUintReverseBytesSpec)

/-- 'laws.FnPrefix', WHERE WHAT IT READS IS OF BULK AT MOST 1048576: true; the input reads as it did. -/
def fnPrefixUptoRow : OpenClaim := { program := "ytiheaeccnofelaa", sum := "e33a7d1a719e94163576b1e9e4ad6afa95e3da70d91af8d8f96980d582dc4bb0", func := "loop.example/lib-carryroads/laws.FnPrefix", spec := "fnPrefix", apart := false, narrowed := true }
def FnPrefixUptoSaid : Prop := fnPrefixUptoRow.holds Try.pinned (OpenSpec.upto fnPrefixSpec)

/-- 'laws.FnUintReverse', WHERE WHAT IT READS IS OF BULK AT MOST 1048576: true; the input reads as it did. -/
def fnUintReverseUptoRow : OpenClaim := { program := "ytiheaeccnofelaa", sum := "e33a7d1a719e94163576b1e9e4ad6afa95e3da70d91af8d8f96980d582dc4bb0", func := "loop.example/lib-carryroads/laws.FnUintReverse", spec := "fnUintReverse", apart := false, narrowed := true }
def FnUintReverseUptoSaid : Prop := fnUintReverseUptoRow.holds Try.pinned (OpenSpec.upto fnUintReverseSpec)

/-- 'laws.FnUintLen', WHERE WHAT IT READS IS OF BULK AT MOST 1048576: true; the input reads as it did. -/
def fnUintLenUptoRow : OpenClaim := { program := "ytiheaeccnofelaa", sum := "e33a7d1a719e94163576b1e9e4ad6afa95e3da70d91af8d8f96980d582dc4bb0", func := "loop.example/lib-carryroads/laws.FnUintLen", spec := "fnUintLen", apart := false, narrowed := true }
def FnUintLenUptoSaid : Prop := fnUintLenUptoRow.holds Try.pinned (OpenSpec.upto fnUintLenSpec)

/-- 'laws.FnUintLeadingZeros', WHERE WHAT IT READS IS OF BULK AT MOST 1048576: true; the input reads as it did. -/
def fnUintLeadingZerosUptoRow : OpenClaim := { program := "ytiheaeccnofelaa", sum := "e33a7d1a719e94163576b1e9e4ad6afa95e3da70d91af8d8f96980d582dc4bb0", func := "loop.example/lib-carryroads/laws.FnUintLeadingZeros", spec := "fnUintLeadingZeros", apart := false, narrowed := true }
def FnUintLeadingZerosUptoSaid : Prop := fnUintLeadingZerosUptoRow.holds Try.pinned (OpenSpec.upto fnUintLeadingZerosSpec)

/-- 'laws.FnUintOnesCount', WHERE WHAT IT READS IS OF BULK AT MOST 1048576: true; the input reads as it did. -/
def fnUintOnesCountUptoRow : OpenClaim := { program := "ytiheaeccnofelaa", sum := "e33a7d1a719e94163576b1e9e4ad6afa95e3da70d91af8d8f96980d582dc4bb0", func := "loop.example/lib-carryroads/laws.FnUintOnesCount", spec := "fnUintOnesCount", apart := false, narrowed := true }
def FnUintOnesCountUptoSaid : Prop := fnUintOnesCountUptoRow.holds Try.pinned (OpenSpec.upto fnUintOnesCountSpec)

/-- 'laws.FnReverseRotate', WHERE WHAT IT READS IS OF BULK AT MOST 1048576: true; the input reads as it did. -/
def fnReverseRotateUptoRow : OpenClaim := { program := "ytiheaeccnofelaa", sum := "e33a7d1a719e94163576b1e9e4ad6afa95e3da70d91af8d8f96980d582dc4bb0", func := "loop.example/lib-carryroads/laws.FnReverseRotate", spec := "fnReverseRotate", apart := false, narrowed := true }
def FnReverseRotateUptoSaid : Prop := fnReverseRotateUptoRow.holds Try.pinned (OpenSpec.upto fnReverseRotateSpec)

end Rows
end Go.Proofs.Ytiheaeccnofelaa
