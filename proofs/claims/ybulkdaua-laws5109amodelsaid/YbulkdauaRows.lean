/-
  No cell of these rows narrows 'for every input' (looked for: loops, veiled, ifaces, maps, wideKeys, modest, calm, conditions, laid).
  DERIVED. THE GIVEN ROWS OF THIS SEAT. 1 by the template 'for every input the law returns true; each argument reads behind the call as it read before'; 0 by the template 'total and deterministic' (their statements: YbulkdauaTotals.lean).
  GIVEN WITH THE SEED: the statements are not yours to turn. If you find one false, say at which input.
  Laid BY PROGRAM, IN A SANDBOX (cutbox-rows.mjs): the forced cells as the released guide's own fill.sh prints them over the translation 8af5923d60453ac6… (all of the seat's roots in one cut). By AI agents, Wed Nov 11 2026. No macro, syntax, notation, axiom, sorry.
-/
import Derived.Test.YbulkdauaChecked
import GoSem.Claim
import GoSem.ClaimJoined
import GoSem.ClaimMapViews
import Derived.JoinedTies
import Derived.KernelRfl
namespace Go.Proofs.Ybulkdaua
/- THE CELL 'sum', in the pinned program and in every row, IS THE sha256 OF THE DUMP (.gsa) THAT YbulkdauaProg.lean LOADS. Nothing in Lean hashes anything: it is a label: what it is worth is what the hold of that sum in a sandbox is worth. -/
noncomputable def Yba.pinned : Pinned := { name := "ybulkdaua", sum := "8af5923d60453ac68ba81bffc9769ac7421a974d554d8a061b6beba9d3737c3f", checked := Yba.checked }
namespace Rows
def none {H : Type} : Left H := { results := [], args := [] }

/-- 'keyfold.LawS5109AModel': WHATEVER THE INPUT: true; the input reads as it did. -/
def lawS5109AModelSpec : ChangeSpec := { name := "lawS5109AModel", fn := fun _ => fun
  | [d] => { results := [.lit (.bool true)], args := [d] }
  | _ => none }
def lawS5109AModelRow : OpenClaim := { program := "ybulkdaua", sum := "8af5923d60453ac68ba81bffc9769ac7421a974d554d8a061b6beba9d3737c3f", func := "example.com/keyfold/keyfold.LawS5109AModel", spec := "lawS5109AModel", apart := false }
def LawS5109AModelSaid : Prop := lawS5109AModelRow.holds Yba.pinned (OpenSpec.ofChange lawS5109AModelSpec)

/-- ITS FALSE NEIGHBOUR: 'it returns false'. Refute it at one input. -/
def lawS5109AModelWrong : ChangeSpec := { name := "lawS5109AModel", fn := fun _ => fun
  | [d] => { results := [.lit (.bool false)], args := [d] }
  | _ => none }
def LawS5109AModelWrongFalsely : Prop := lawS5109AModelRow.holds Yba.pinned (OpenSpec.ofChange lawS5109AModelWrong)

end Rows
end Go.Proofs.Ybulkdaua
