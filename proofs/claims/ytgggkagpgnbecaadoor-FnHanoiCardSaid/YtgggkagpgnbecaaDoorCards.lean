/-
  DERIVED. GIVEN WITH THE SEED: THE CARDS: each row of YtgggkagpgnbecaaDoorRows.lean that lists a variable, with what it lists TIED to the program's text (the seventh form; the later family's looks); each row that meets fmt, with fmt's text TOLD by the authors' own Lean function (tested against real Go, not proved from fmt's source: count such statements apart). THE CARD IS WHAT COUNTS. Prove the row's statement (the work); the ties are given (YtgggkagpgnbecaaDoorTie.lean); close each card by the builder's one call (the guide's Derived/Test/ToyasCard.lean, 'card_holds'). Laid BY PROGRAM, IN A SANDBOX (cutbox-door.mjs). By AI agents, Wed Nov 11 2026. No macro, syntax, notation, axiom, sorry.
-/
import Derived.Test.YtgggkagpgnbecaaDoorRows
import GoSem.ClaimSeven
namespace Go.Proofs.YtgggkagpgnbecaaDoor
namespace Rows

/-- THE TIED CARD OF 'laws.FnUnion'. -/
def fnUnionCard : Claim7 := { stood := { row := fnUnionRow, standIns := [], harness := (true, "1124f5f042c8a046325b5f41bbb057bc9f91c2952210547809328f7bbabfd061"), looks := false }, kinds := [], alts := [], laidByText := true, laidKinds := [.data, .data], laidTests := true, laidLooks := .later }
def FnUnionCardSaid : Prop := Claim7.holds Tryd.pinned (.plain (OpenSpec.ofChange fnUnionSpec)) fnUnionCard

/-- THE TIED CARD OF 'laws.FnHanoi'. -/
def fnHanoiCard : Claim7 := { stood := { row := fnHanoiRow, standIns := [], harness := (true, "1124f5f042c8a046325b5f41bbb057bc9f91c2952210547809328f7bbabfd061"), looks := false }, kinds := [], alts := [], laidByText := true, laidKinds := [.data], laidTests := true, laidLooks := .later }
def FnHanoiCardSaid : Prop := Claim7.holds Tryd.pinned (.plain (OpenSpec.ofChange fnHanoiSpec)) fnHanoiCard

/-- THE TIED CARD OF 'laws.FnUnion16'. -/
def fnUnion16Card : Claim7 := { stood := { row := fnUnion16Row, standIns := [], harness := (true, "1124f5f042c8a046325b5f41bbb057bc9f91c2952210547809328f7bbabfd061"), looks := false }, kinds := [], alts := [], laidByText := true, laidKinds := [.data], laidTests := true, laidLooks := .later }
def FnUnion16CardSaid : Prop := Claim7.holds Tryd.pinned (.plain (OpenSpec.ofChange fnUnion16Spec)) fnUnion16Card

/-- THE TIED CARD OF 'laws.FnUnion32'. -/
def fnUnion32Card : Claim7 := { stood := { row := fnUnion32Row, standIns := [], harness := (true, "1124f5f042c8a046325b5f41bbb057bc9f91c2952210547809328f7bbabfd061"), looks := false }, kinds := [], alts := [], laidByText := true, laidKinds := [.data], laidTests := true, laidLooks := .later }
def FnUnion32CardSaid : Prop := Claim7.holds Tryd.pinned (.plain (OpenSpec.ofChange fnUnion32Spec)) fnUnion32Card

/-- THE TIED CARD OF 'laws.FnUnion64'. -/
def fnUnion64Card : Claim7 := { stood := { row := fnUnion64Row, standIns := [], harness := (true, "1124f5f042c8a046325b5f41bbb057bc9f91c2952210547809328f7bbabfd061"), looks := false }, kinds := [], alts := [], laidByText := true, laidKinds := [.data], laidTests := true, laidLooks := .later }
def FnUnion64CardSaid : Prop := Claim7.holds Tryd.pinned (.plain (OpenSpec.ofChange fnUnion64Spec)) fnUnion64Card

/-- THE TIED CARD OF 'laws.FnUintTrailingZeros'. -/
def fnUintTrailingZerosCard : Claim7 := { stood := { row := fnUintTrailingZerosRow, standIns := [], harness := (true, "1124f5f042c8a046325b5f41bbb057bc9f91c2952210547809328f7bbabfd061"), looks := false }, kinds := [], alts := [], laidByText := true, laidKinds := [.data, .data], laidTests := true, laidLooks := .later }
def FnUintTrailingZerosCardSaid : Prop := Claim7.holds Tryd.pinned (.plain (OpenSpec.ofChange fnUintTrailingZerosSpec)) fnUintTrailingZerosCard

/-- THE SECOND FORM's CARD OF 'laws.FnUnion'. -/
def fnUnionUptoCard : Claim7 := { stood := { row := fnUnionUptoRow, standIns := [], harness := (true, "1124f5f042c8a046325b5f41bbb057bc9f91c2952210547809328f7bbabfd061"), looks := false }, kinds := [], alts := [], laidByText := true, laidKinds := [.data, .data], laidTests := true, laidLooks := .later }
def FnUnionUptoCardSaid : Prop := Claim7.holds Tryd.pinned (.plain (OpenSpec.upto fnUnionSpec)) fnUnionUptoCard

/-- THE SECOND FORM's CARD OF 'laws.FnHanoi'. -/
def fnHanoiUptoCard : Claim7 := { stood := { row := fnHanoiUptoRow, standIns := [], harness := (true, "1124f5f042c8a046325b5f41bbb057bc9f91c2952210547809328f7bbabfd061"), looks := false }, kinds := [], alts := [], laidByText := true, laidKinds := [.data], laidTests := true, laidLooks := .later }
def FnHanoiUptoCardSaid : Prop := Claim7.holds Tryd.pinned (.plain (OpenSpec.upto fnHanoiSpec)) fnHanoiUptoCard

/-- THE SECOND FORM's CARD OF 'laws.FnUnion16'. -/
def fnUnion16UptoCard : Claim7 := { stood := { row := fnUnion16UptoRow, standIns := [], harness := (true, "1124f5f042c8a046325b5f41bbb057bc9f91c2952210547809328f7bbabfd061"), looks := false }, kinds := [], alts := [], laidByText := true, laidKinds := [.data], laidTests := true, laidLooks := .later }
def FnUnion16UptoCardSaid : Prop := Claim7.holds Tryd.pinned (.plain (OpenSpec.upto fnUnion16Spec)) fnUnion16UptoCard

/-- THE SECOND FORM's CARD OF 'laws.FnUnion32'. -/
def fnUnion32UptoCard : Claim7 := { stood := { row := fnUnion32UptoRow, standIns := [], harness := (true, "1124f5f042c8a046325b5f41bbb057bc9f91c2952210547809328f7bbabfd061"), looks := false }, kinds := [], alts := [], laidByText := true, laidKinds := [.data], laidTests := true, laidLooks := .later }
def FnUnion32UptoCardSaid : Prop := Claim7.holds Tryd.pinned (.plain (OpenSpec.upto fnUnion32Spec)) fnUnion32UptoCard

/-- THE SECOND FORM's CARD OF 'laws.FnUnion64'. -/
def fnUnion64UptoCard : Claim7 := { stood := { row := fnUnion64UptoRow, standIns := [], harness := (true, "1124f5f042c8a046325b5f41bbb057bc9f91c2952210547809328f7bbabfd061"), looks := false }, kinds := [], alts := [], laidByText := true, laidKinds := [.data], laidTests := true, laidLooks := .later }
def FnUnion64UptoCardSaid : Prop := Claim7.holds Tryd.pinned (.plain (OpenSpec.upto fnUnion64Spec)) fnUnion64UptoCard

/-- THE SECOND FORM's CARD OF 'laws.FnUintTrailingZeros'. -/
def fnUintTrailingZerosUptoCard : Claim7 := { stood := { row := fnUintTrailingZerosUptoRow, standIns := [], harness := (true, "1124f5f042c8a046325b5f41bbb057bc9f91c2952210547809328f7bbabfd061"), looks := false }, kinds := [], alts := [], laidByText := true, laidKinds := [.data, .data], laidTests := true, laidLooks := .later }
def FnUintTrailingZerosUptoCardSaid : Prop := Claim7.holds Tryd.pinned (.plain (OpenSpec.upto fnUintTrailingZerosSpec)) fnUintTrailingZerosUptoCard
end Rows
end Go.Proofs.YtgggkagpgnbecaaDoor
