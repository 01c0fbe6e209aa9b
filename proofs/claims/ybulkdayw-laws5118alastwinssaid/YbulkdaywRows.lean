/-
  No cell of these rows narrows 'for every input' (looked for: loops, veiled, ifaces, maps, wideKeys, modest, calm, conditions, laid).
  DERIVED. THE GIVEN ROWS OF THIS SEAT. 5 by the template 'for every input the law returns true; each argument reads behind the call as it read before'; 0 by the template 'total and deterministic' (their statements: YbulkdaywTotals.lean).
  GIVEN WITH THE SEED: the statements are not yours to turn. If you find one false, say at which input.
  Laid BY PROGRAM, IN A SANDBOX (cutbox-rows.mjs): the forced cells as the released guide's own fill.sh prints them over the translation f5c3c1bf7788f379… (all of the seat's roots in one cut). By AI agents, Wed Nov 11 2026. No macro, syntax, notation, axiom, sorry.
-/
import Derived.Test.YbulkdaywChecked
import GoSem.Claim
import GoSem.ClaimJoined
import GoSem.ClaimMapViews
import Derived.JoinedTies
import Derived.KernelRfl
namespace Go.Proofs.Ybulkdayw
/- THE CELL 'sum', in the pinned program and in every row, IS THE sha256 OF THE DUMP (.gsa) THAT YbulkdaywProg.lean LOADS. Nothing in Lean hashes anything: it is a label: what it is worth is what the hold of that sum in a sandbox is worth. -/
noncomputable def Yba.pinned : Pinned := { name := "ybulkdayw", sum := "f5c3c1bf7788f3790fce3bb022bfeb7c3693148f743c8e7507581104d2fae359", checked := Yba.checked }
namespace Rows
def none {H : Type} : Left H := { results := [], args := [] }

/-- 'linewire.LawS5118ASets': WHATEVER THE INPUT: true; the input reads as it did. -/
def lawS5118ASetsSpec : ChangeSpec := { name := "lawS5118ASets", fn := fun _ => fun
  | [d1, d2, d3, d4, d5, d6, d7, d8] => { results := [.lit (.bool true)], args := [d1, d2, d3, d4, d5, d6, d7, d8] }
  | _ => none }
def lawS5118ASetsRow : OpenClaim := { program := "ybulkdayw", sum := "f5c3c1bf7788f3790fce3bb022bfeb7c3693148f743c8e7507581104d2fae359", func := "example.com/linewire/linewire.LawS5118ASets", spec := "lawS5118ASets", apart := false }
def LawS5118ASetsSaid : Prop := lawS5118ASetsRow.holds Yba.pinned (OpenSpec.ofChange lawS5118ASetsSpec)

/-- ITS FALSE NEIGHBOUR: 'it returns false'. Refute it at one input. -/
def lawS5118ASetsWrong : ChangeSpec := { name := "lawS5118ASets", fn := fun _ => fun
  | [d1, d2, d3, d4, d5, d6, d7, d8] => { results := [.lit (.bool false)], args := [d1, d2, d3, d4, d5, d6, d7, d8] }
  | _ => none }
def LawS5118ASetsWrongFalsely : Prop := lawS5118ASetsRow.holds Yba.pinned (OpenSpec.ofChange lawS5118ASetsWrong)

/-- 'linewire.LawS5118ALastWins': WHATEVER THE INPUT: true; the input reads as it did. -/
def lawS5118ALastWinsSpec : ChangeSpec := { name := "lawS5118ALastWins", fn := fun _ => fun
  | [d] => { results := [.lit (.bool true)], args := [d] }
  | _ => none }
def lawS5118ALastWinsRow : OpenClaim := { program := "ybulkdayw", sum := "f5c3c1bf7788f3790fce3bb022bfeb7c3693148f743c8e7507581104d2fae359", func := "example.com/linewire/linewire.LawS5118ALastWins", spec := "lawS5118ALastWins", apart := false }
def LawS5118ALastWinsSaid : Prop := lawS5118ALastWinsRow.holds Yba.pinned (OpenSpec.ofChange lawS5118ALastWinsSpec)

/-- ITS FALSE NEIGHBOUR: 'it returns false'. Refute it at one input. -/
def lawS5118ALastWinsWrong : ChangeSpec := { name := "lawS5118ALastWins", fn := fun _ => fun
  | [d] => { results := [.lit (.bool false)], args := [d] }
  | _ => none }
def LawS5118ALastWinsWrongFalsely : Prop := lawS5118ALastWinsRow.holds Yba.pinned (OpenSpec.ofChange lawS5118ALastWinsWrong)

/-- 'linewire.LawS5118BModel': WHATEVER THE INPUT: true; the input reads as it did. -/
def lawS5118BModelSpec : ChangeSpec := { name := "lawS5118BModel", fn := fun _ => fun
  | [d] => { results := [.lit (.bool true)], args := [d] }
  | _ => none }
def lawS5118BModelRow : OpenClaim := { program := "ybulkdayw", sum := "f5c3c1bf7788f3790fce3bb022bfeb7c3693148f743c8e7507581104d2fae359", func := "example.com/linewire/linewire.LawS5118BModel", spec := "lawS5118BModel", inPlace := ["math/bits.Add64"], named := ["encoding/binary.LittleEndian"], apart := false }
def LawS5118BModelSaid : Prop := lawS5118BModelRow.holds Yba.pinned (OpenSpec.ofChange lawS5118BModelSpec)

/-- ITS FALSE NEIGHBOUR: 'it returns false'. Refute it at one input. -/
def lawS5118BModelWrong : ChangeSpec := { name := "lawS5118BModel", fn := fun _ => fun
  | [d] => { results := [.lit (.bool false)], args := [d] }
  | _ => none }
def LawS5118BModelWrongFalsely : Prop := lawS5118BModelRow.holds Yba.pinned (OpenSpec.ofChange lawS5118BModelWrong)

/-- 'linewire.LawS5118BDigits': WHATEVER THE INPUT: true; the input reads as it did. -/
def lawS5118BDigitsSpec : ChangeSpec := { name := "lawS5118BDigits", fn := fun _ => fun
  | [d1, d2, d3, d4] => { results := [.lit (.bool true)], args := [d1, d2, d3, d4] }
  | _ => none }
def lawS5118BDigitsRow : OpenClaim := { program := "ybulkdayw", sum := "f5c3c1bf7788f3790fce3bb022bfeb7c3693148f743c8e7507581104d2fae359", func := "example.com/linewire/linewire.LawS5118BDigits", spec := "lawS5118BDigits", inPlace := ["math/bits.Add64"], named := ["encoding/binary.LittleEndian"], apart := false }
def LawS5118BDigitsSaid : Prop := lawS5118BDigitsRow.holds Yba.pinned (OpenSpec.ofChange lawS5118BDigitsSpec)

/-- ITS FALSE NEIGHBOUR: 'it returns false'. Refute it at one input. -/
def lawS5118BDigitsWrong : ChangeSpec := { name := "lawS5118BDigits", fn := fun _ => fun
  | [d1, d2, d3, d4] => { results := [.lit (.bool false)], args := [d1, d2, d3, d4] }
  | _ => none }
def LawS5118BDigitsWrongFalsely : Prop := lawS5118BDigitsRow.holds Yba.pinned (OpenSpec.ofChange lawS5118BDigitsWrong)

/-- 'linewire.LawS5118BRoundTrip': WHATEVER THE INPUT: true; the input reads as it did. -/
def lawS5118BRoundTripSpec : ChangeSpec := { name := "lawS5118BRoundTrip", fn := fun _ => fun
  | [d1, d2] => { results := [.lit (.bool true)], args := [d1, d2] }
  | _ => none }
def lawS5118BRoundTripRow : OpenClaim := { program := "ybulkdayw", sum := "f5c3c1bf7788f3790fce3bb022bfeb7c3693148f743c8e7507581104d2fae359", func := "example.com/linewire/linewire.LawS5118BRoundTrip", spec := "lawS5118BRoundTrip", inPlace := ["math/bits.Add64"], named := ["encoding/binary.LittleEndian"], apart := false }
def LawS5118BRoundTripSaid : Prop := lawS5118BRoundTripRow.holds Yba.pinned (OpenSpec.ofChange lawS5118BRoundTripSpec)

/-- ITS FALSE NEIGHBOUR: 'it returns false'. Refute it at one input. -/
def lawS5118BRoundTripWrong : ChangeSpec := { name := "lawS5118BRoundTrip", fn := fun _ => fun
  | [d1, d2] => { results := [.lit (.bool false)], args := [d1, d2] }
  | _ => none }
def LawS5118BRoundTripWrongFalsely : Prop := lawS5118BRoundTripRow.holds Yba.pinned (OpenSpec.ofChange lawS5118BRoundTripWrong)

end Rows
end Go.Proofs.Ybulkdayw
