/-
  NARROWER THAN 'FOR EVERY INPUT', by the rows' own cells (each row's printed sentence says how): FnUnion: laid · FnHanoi: laid · FnUnion16: laid · FnUnion32: laid · FnUnion64: laid · FnUintTrailingZeros: laid.
  DERIVED. THE GIVEN ROWS OF THIS SEAT. 6 by the template 'for every input the law returns true; each argument reads behind the call as it read before'; 0 by the template 'total and deterministic' (their statements: YtgggkagpgnbecaaDoorTotals.lean).
  GIVEN WITH THE SEED: the statements are not yours to turn. If you find one false, say at which input.
  Laid BY PROGRAM, IN A SANDBOX (cutbox-rows.mjs): the forced cells as the released guide's own fill.sh prints them over the translation 49b5ab3c1c0c9f5d… (all of the seat's roots in one cut). By AI agents, Wed Nov 11 2026. No macro, syntax, notation, axiom, sorry.
-/
import Derived.Test.YtgggkagpgnbecaaDoorChecked
import GoSem.Claim
import GoSem.ClaimJoined
import GoSem.ClaimMapViews
import Derived.JoinedTies
import Derived.KernelRfl
namespace Go.Proofs.YtgggkagpgnbecaaDoor
/- THE CELL 'sum', in the pinned program and in every row, IS THE sha256 OF THE DUMP (.gsa) THAT YtgggkagpgnbecaaDoorProg.lean LOADS. Nothing in Lean hashes anything: it is a label: what it is worth is what the hold of that sum in a sandbox is worth. -/
noncomputable def Tryd.pinned : Pinned := { name := "ytgggkagpgnbecaadoor", sum := "49b5ab3c1c0c9f5d1ebd782718f05a5275811c20f2fc073bfb2621af2c006a68", checked := Tryd.checked }
namespace Rows
def none {H : Type} : Left H := { results := [], args := [] }

/- WHAT THE LISTED PACKAGE-LEVEL VARIABLES READ AS WHEN THE CALL BEGINS. Each datum BY PROGRAM (the guide's laid-datum.mjs) off the statement by which the dump's own 'gosem.cut.vars' lays the variable. In a bare row this is a premise. The card (YtgggkagpgnbecaaDoorCards.lean) ties it to the program's text. -/
def laid_math_bits_deBruijn32tab {H : Type} : DataW H := .agg [.lit (.int .u8 0), .lit (.int .u8 1), .lit (.int .u8 28), .lit (.int .u8 2), .lit (.int .u8 29), .lit (.int .u8 14), .lit (.int .u8 24), .lit (.int .u8 3), .lit (.int .u8 30), .lit (.int .u8 22), .lit (.int .u8 20), .lit (.int .u8 15), .lit (.int .u8 25), .lit (.int .u8 17), .lit (.int .u8 4), .lit (.int .u8 8), .lit (.int .u8 31), .lit (.int .u8 27), .lit (.int .u8 13), .lit (.int .u8 23), .lit (.int .u8 21), .lit (.int .u8 19), .lit (.int .u8 16), .lit (.int .u8 7), .lit (.int .u8 26), .lit (.int .u8 12), .lit (.int .u8 18), .lit (.int .u8 6), .lit (.int .u8 11), .lit (.int .u8 5), .lit (.int .u8 10), .lit (.int .u8 9)]
def laid_math_bits_deBruijn64tab {H : Type} : DataW H := .agg [.lit (.int .u8 0), .lit (.int .u8 1), .lit (.int .u8 56), .lit (.int .u8 2), .lit (.int .u8 57), .lit (.int .u8 49), .lit (.int .u8 28), .lit (.int .u8 3), .lit (.int .u8 61), .lit (.int .u8 58), .lit (.int .u8 42), .lit (.int .u8 50), .lit (.int .u8 38), .lit (.int .u8 29), .lit (.int .u8 17), .lit (.int .u8 4), .lit (.int .u8 62), .lit (.int .u8 47), .lit (.int .u8 59), .lit (.int .u8 36), .lit (.int .u8 45), .lit (.int .u8 43), .lit (.int .u8 51), .lit (.int .u8 22), .lit (.int .u8 53), .lit (.int .u8 39), .lit (.int .u8 33), .lit (.int .u8 30), .lit (.int .u8 24), .lit (.int .u8 18), .lit (.int .u8 12), .lit (.int .u8 5), .lit (.int .u8 63), .lit (.int .u8 55), .lit (.int .u8 48), .lit (.int .u8 27), .lit (.int .u8 60), .lit (.int .u8 41), .lit (.int .u8 37), .lit (.int .u8 16), .lit (.int .u8 46), .lit (.int .u8 35), .lit (.int .u8 44), .lit (.int .u8 21), .lit (.int .u8 52), .lit (.int .u8 32), .lit (.int .u8 23), .lit (.int .u8 11), .lit (.int .u8 54), .lit (.int .u8 26), .lit (.int .u8 40), .lit (.int .u8 15), .lit (.int .u8 34), .lit (.int .u8 20), .lit (.int .u8 31), .lit (.int .u8 10), .lit (.int .u8 25), .lit (.int .u8 14), .lit (.int .u8 19), .lit (.int .u8 9), .lit (.int .u8 13), .lit (.int .u8 8), .lit (.int .u8 7), .lit (.int .u8 6)]

/-- 'laws.FnUnion': WHATEVER THE INPUT: true; the input reads as it did. -/
def fnUnionSpec : ChangeSpec := { name := "fnUnion", fn := fun _ => fun
  | [d1, d2] => { results := [.lit (.bool true)], args := [d1, d2] }
  | _ => none }
def fnUnionRow : OpenClaim := { program := "ytgggkagpgnbecaadoor", sum := "49b5ab3c1c0c9f5d1ebd782718f05a5275811c20f2fc073bfb2621af2c006a68", func := "loop.example/lib-carryroads/laws.FnUnion", spec := "fnUnion", named := ["math/bits.deBruijn32tab", "math/bits.deBruijn64tab"], apart := false, laid := [("math/bits.deBruijn32tab", laid_math_bits_deBruijn32tab), ("math/bits.deBruijn64tab", laid_math_bits_deBruijn64tab)] }
def FnUnionSaid : Prop := fnUnionRow.holds Tryd.pinned (OpenSpec.ofChange fnUnionSpec)

/-- ITS FALSE NEIGHBOUR: 'it returns false'. Refute it at one input. -/
def fnUnionWrong : ChangeSpec := { name := "fnUnion", fn := fun _ => fun
  | [d1, d2] => { results := [.lit (.bool false)], args := [d1, d2] }
  | _ => none }
def FnUnionWrongFalsely : Prop := fnUnionRow.holds Tryd.pinned (OpenSpec.ofChange fnUnionWrong)

/-- 'laws.FnHanoi': WHATEVER THE INPUT: true; the input reads as it did. -/
def fnHanoiSpec : ChangeSpec := { name := "fnHanoi", fn := fun _ => fun
  | [d] => { results := [.lit (.bool true)], args := [d] }
  | _ => none }
def fnHanoiRow : OpenClaim := { program := "ytgggkagpgnbecaadoor", sum := "49b5ab3c1c0c9f5d1ebd782718f05a5275811c20f2fc073bfb2621af2c006a68", func := "loop.example/lib-carryroads/laws.FnHanoi", spec := "fnHanoi", named := ["math/bits.deBruijn64tab"], apart := false, laid := [("math/bits.deBruijn64tab", laid_math_bits_deBruijn64tab)] }
def FnHanoiSaid : Prop := fnHanoiRow.holds Tryd.pinned (OpenSpec.ofChange fnHanoiSpec)

/-- ITS FALSE NEIGHBOUR: 'it returns false'. Refute it at one input. -/
def fnHanoiWrong : ChangeSpec := { name := "fnHanoi", fn := fun _ => fun
  | [d] => { results := [.lit (.bool false)], args := [d] }
  | _ => none }
def FnHanoiWrongFalsely : Prop := fnHanoiRow.holds Tryd.pinned (OpenSpec.ofChange fnHanoiWrong)

/-- 'laws.FnUnion16': WHATEVER THE INPUT: true; the input reads as it did. -/
def fnUnion16Spec : ChangeSpec := { name := "fnUnion16", fn := fun _ => fun
  | [d1, d2] => { results := [.lit (.bool true)], args := [d1, d2] }
  | _ => none }
def fnUnion16Row : OpenClaim := { program := "ytgggkagpgnbecaadoor", sum := "49b5ab3c1c0c9f5d1ebd782718f05a5275811c20f2fc073bfb2621af2c006a68", func := "loop.example/lib-carryroads/laws.FnUnion16", spec := "fnUnion16", named := ["math/bits.deBruijn32tab"], apart := false, laid := [("math/bits.deBruijn32tab", laid_math_bits_deBruijn32tab)] }
def FnUnion16Said : Prop := fnUnion16Row.holds Tryd.pinned (OpenSpec.ofChange fnUnion16Spec)

/-- ITS FALSE NEIGHBOUR: 'it returns false'. Refute it at one input. -/
def fnUnion16Wrong : ChangeSpec := { name := "fnUnion16", fn := fun _ => fun
  | [d1, d2] => { results := [.lit (.bool false)], args := [d1, d2] }
  | _ => none }
def FnUnion16WrongFalsely : Prop := fnUnion16Row.holds Tryd.pinned (OpenSpec.ofChange fnUnion16Wrong)

/-- 'laws.FnUnion32': WHATEVER THE INPUT: true; the input reads as it did. -/
def fnUnion32Spec : ChangeSpec := { name := "fnUnion32", fn := fun _ => fun
  | [d1, d2] => { results := [.lit (.bool true)], args := [d1, d2] }
  | _ => none }
def fnUnion32Row : OpenClaim := { program := "ytgggkagpgnbecaadoor", sum := "49b5ab3c1c0c9f5d1ebd782718f05a5275811c20f2fc073bfb2621af2c006a68", func := "loop.example/lib-carryroads/laws.FnUnion32", spec := "fnUnion32", named := ["math/bits.deBruijn32tab"], apart := false, laid := [("math/bits.deBruijn32tab", laid_math_bits_deBruijn32tab)] }
def FnUnion32Said : Prop := fnUnion32Row.holds Tryd.pinned (OpenSpec.ofChange fnUnion32Spec)

/-- ITS FALSE NEIGHBOUR: 'it returns false'. Refute it at one input. -/
def fnUnion32Wrong : ChangeSpec := { name := "fnUnion32", fn := fun _ => fun
  | [d1, d2] => { results := [.lit (.bool false)], args := [d1, d2] }
  | _ => none }
def FnUnion32WrongFalsely : Prop := fnUnion32Row.holds Tryd.pinned (OpenSpec.ofChange fnUnion32Wrong)

/-- 'laws.FnUnion64': WHATEVER THE INPUT: true; the input reads as it did. -/
def fnUnion64Spec : ChangeSpec := { name := "fnUnion64", fn := fun _ => fun
  | [d1, d2] => { results := [.lit (.bool true)], args := [d1, d2] }
  | _ => none }
def fnUnion64Row : OpenClaim := { program := "ytgggkagpgnbecaadoor", sum := "49b5ab3c1c0c9f5d1ebd782718f05a5275811c20f2fc073bfb2621af2c006a68", func := "loop.example/lib-carryroads/laws.FnUnion64", spec := "fnUnion64", named := ["math/bits.deBruijn64tab"], apart := false, laid := [("math/bits.deBruijn64tab", laid_math_bits_deBruijn64tab)] }
def FnUnion64Said : Prop := fnUnion64Row.holds Tryd.pinned (OpenSpec.ofChange fnUnion64Spec)

/-- ITS FALSE NEIGHBOUR: 'it returns false'. Refute it at one input. -/
def fnUnion64Wrong : ChangeSpec := { name := "fnUnion64", fn := fun _ => fun
  | [d1, d2] => { results := [.lit (.bool false)], args := [d1, d2] }
  | _ => none }
def FnUnion64WrongFalsely : Prop := fnUnion64Row.holds Tryd.pinned (OpenSpec.ofChange fnUnion64Wrong)

/-- 'laws.FnUintTrailingZeros': WHATEVER THE INPUT: true; the input reads as it did. -/
def fnUintTrailingZerosSpec : ChangeSpec := { name := "fnUintTrailingZeros", fn := fun _ => fun
  | [d] => { results := [.lit (.bool true)], args := [d] }
  | _ => none }
def fnUintTrailingZerosRow : OpenClaim := { program := "ytgggkagpgnbecaadoor", sum := "49b5ab3c1c0c9f5d1ebd782718f05a5275811c20f2fc073bfb2621af2c006a68", func := "loop.example/lib-carryroads/laws.FnUintTrailingZeros", spec := "fnUintTrailingZeros", named := ["math/bits.deBruijn32tab", "math/bits.deBruijn64tab"], apart := false, laid := [("math/bits.deBruijn32tab", laid_math_bits_deBruijn32tab), ("math/bits.deBruijn64tab", laid_math_bits_deBruijn64tab)] }
def FnUintTrailingZerosSaid : Prop := fnUintTrailingZerosRow.holds Tryd.pinned (OpenSpec.ofChange fnUintTrailingZerosSpec)

/-- ITS FALSE NEIGHBOUR: 'it returns false'. Refute it at one input. -/
def fnUintTrailingZerosWrong : ChangeSpec := { name := "fnUintTrailingZeros", fn := fun _ => fun
  | [d] => { results := [.lit (.bool false)], args := [d] }
  | _ => none }
def FnUintTrailingZerosWrongFalsely : Prop := fnUintTrailingZerosRow.holds Tryd.pinned (OpenSpec.ofChange fnUintTrailingZerosWrong)

/- THE SECOND FORM. 'bulk': how many values and letters a reading holds, each counted each time it is reached (what is shared counts as often as it is met; a slice's spare places count too). A statement '..UptoSaid' is the law's where the arguments, and the package variables that the reading takes, are together of bulk at most 1048576: NARROWER than '..Said'. Prove '..Said' where nothing that the law and all that it calls make is longer than what came in: it says more and counts as full. Else prove '..UptoSaid'. A law counts once. -/
mutual
def uptoBulk {H : Type} : DataW H → Nat
  | .lit (.string bytes) => bytes.length + 1
  | .lit _ => 1
  | .nil => 1
  | .ptr d => uptoBulk d + 1
  | .slice elems spare => uptoBulkAll elems + uptoBulkAll spare + 1
  | .agg parts => uptoBulkAll parts + 1
  | .iface _ d => uptoBulk d + 1
  | .map entries => uptoBulkEntries entries + 1
  | .held _ => 1
def uptoBulkAll {H : Type} : List (DataW H) → Nat
  | [] => 0
  | d :: r => uptoBulk d + uptoBulkAll r
def uptoBulkEntries {H : Type} : List (Lit × DataW H) → Nat
  | [] => 0
  | x :: r => uptoBulkEntry x + uptoBulkEntries r
def uptoBulkEntry {H : Type} : Lit × DataW H → Nat
  | (.string bytes, d) => bytes.length + uptoBulk d + 1
  | (_, d) => uptoBulk d + 1
 end
def uptoSmall : (H : Type) → List (DataW H) → Bool := fun _ ds => decide (uptoBulkAll ds ≤ 1048576)
def OpenSpec.upto (s : _root_.Go.ChangeSpec) : _root_.Go.OpenSpec := { _root_.Go.OpenSpec.ofChange s with cond := some uptoSmall }

/-- 'laws.FnUnion', WHERE WHAT IT READS IS OF BULK AT MOST 1048576: true; the input reads as it did. -/
def fnUnionUptoRow : OpenClaim := { program := "ytgggkagpgnbecaadoor", sum := "49b5ab3c1c0c9f5d1ebd782718f05a5275811c20f2fc073bfb2621af2c006a68", func := "loop.example/lib-carryroads/laws.FnUnion", spec := "fnUnion", named := ["math/bits.deBruijn32tab", "math/bits.deBruijn64tab"], apart := false, laid := [("math/bits.deBruijn32tab", laid_math_bits_deBruijn32tab), ("math/bits.deBruijn64tab", laid_math_bits_deBruijn64tab)], narrowed := true }
def FnUnionUptoSaid : Prop := fnUnionUptoRow.holds Tryd.pinned (OpenSpec.upto fnUnionSpec)

/-- 'laws.FnHanoi', WHERE WHAT IT READS IS OF BULK AT MOST 1048576: true; the input reads as it did. -/
def fnHanoiUptoRow : OpenClaim := { program := "ytgggkagpgnbecaadoor", sum := "49b5ab3c1c0c9f5d1ebd782718f05a5275811c20f2fc073bfb2621af2c006a68", func := "loop.example/lib-carryroads/laws.FnHanoi", spec := "fnHanoi", named := ["math/bits.deBruijn64tab"], apart := false, laid := [("math/bits.deBruijn64tab", laid_math_bits_deBruijn64tab)], narrowed := true }
def FnHanoiUptoSaid : Prop := fnHanoiUptoRow.holds Tryd.pinned (OpenSpec.upto fnHanoiSpec)

/-- 'laws.FnUnion16', WHERE WHAT IT READS IS OF BULK AT MOST 1048576: true; the input reads as it did. -/
def fnUnion16UptoRow : OpenClaim := { program := "ytgggkagpgnbecaadoor", sum := "49b5ab3c1c0c9f5d1ebd782718f05a5275811c20f2fc073bfb2621af2c006a68", func := "loop.example/lib-carryroads/laws.FnUnion16", spec := "fnUnion16", named := ["math/bits.deBruijn32tab"], apart := false, laid := [("math/bits.deBruijn32tab", laid_math_bits_deBruijn32tab)], narrowed := true }
def FnUnion16UptoSaid : Prop := fnUnion16UptoRow.holds Tryd.pinned (OpenSpec.upto fnUnion16Spec)

/-- 'laws.FnUnion32', WHERE WHAT IT READS IS OF BULK AT MOST 1048576: true; the input reads as it did. -/
def fnUnion32UptoRow : OpenClaim := { program := "ytgggkagpgnbecaadoor", sum := "49b5ab3c1c0c9f5d1ebd782718f05a5275811c20f2fc073bfb2621af2c006a68", func := "loop.example/lib-carryroads/laws.FnUnion32", spec := "fnUnion32", named := ["math/bits.deBruijn32tab"], apart := false, laid := [("math/bits.deBruijn32tab", laid_math_bits_deBruijn32tab)], narrowed := true }
def FnUnion32UptoSaid : Prop := fnUnion32UptoRow.holds Tryd.pinned (OpenSpec.upto fnUnion32Spec)

/-- 'laws.FnUnion64', WHERE WHAT IT READS IS OF BULK AT MOST 1048576: true; the input reads as it did. -/
def fnUnion64UptoRow : OpenClaim := { program := "ytgggkagpgnbecaadoor", sum := "49b5ab3c1c0c9f5d1ebd782718f05a5275811c20f2fc073bfb2621af2c006a68", func := "loop.example/lib-carryroads/laws.FnUnion64", spec := "fnUnion64", named := ["math/bits.deBruijn64tab"], apart := false, laid := [("math/bits.deBruijn64tab", laid_math_bits_deBruijn64tab)], narrowed := true }
def FnUnion64UptoSaid : Prop := fnUnion64UptoRow.holds Tryd.pinned (OpenSpec.upto fnUnion64Spec)

/-- 'laws.FnUintTrailingZeros', WHERE WHAT IT READS IS OF BULK AT MOST 1048576: true; the input reads as it did. -/
def fnUintTrailingZerosUptoRow : OpenClaim := { program := "ytgggkagpgnbecaadoor", sum := "49b5ab3c1c0c9f5d1ebd782718f05a5275811c20f2fc073bfb2621af2c006a68", func := "loop.example/lib-carryroads/laws.FnUintTrailingZeros", spec := "fnUintTrailingZeros", named := ["math/bits.deBruijn32tab", "math/bits.deBruijn64tab"], apart := false, laid := [("math/bits.deBruijn32tab", laid_math_bits_deBruijn32tab), ("math/bits.deBruijn64tab", laid_math_bits_deBruijn64tab)], narrowed := true }
def FnUintTrailingZerosUptoSaid : Prop := fnUintTrailingZerosUptoRow.holds Tryd.pinned (OpenSpec.upto fnUintTrailingZerosSpec)

end Rows
end Go.Proofs.YtgggkagpgnbecaaDoor
