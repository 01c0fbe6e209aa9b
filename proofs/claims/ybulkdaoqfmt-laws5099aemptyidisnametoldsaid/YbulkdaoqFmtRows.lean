/-
  No cell of these rows narrows 'for every input' (looked for: loops, veiled, ifaces, maps, wideKeys, modest, calm, conditions, laid).
  DERIVED. THE GIVEN ROWS OF THIS SEAT. 1 by the template 'for every input the law returns true; each argument reads behind the call as it read before'; 0 by the template 'total and deterministic' (their statements: YbulkdaoqFmtTotals.lean).
  GIVEN WITH THE SEED: the statements are not yours to turn. If you find one false, say at which input.
  Laid BY PROGRAM, IN A SANDBOX (cutbox-rows.mjs): the forced cells as the released guide's own fill.sh prints them over the translation 51a8385d9cca215e… (all of the seat's roots in one cut). By AI agents, Wed Nov 11 2026. No macro, syntax, notation, axiom, sorry.
-/
import Derived.Test.YbulkdaoqFmtChecked
import GoSem.Claim
import GoSem.ClaimJoined
import GoSem.ClaimMapViews
import Derived.JoinedTies
import Derived.KernelRfl
namespace Go.Proofs.YbulkdaoqFmt
/- THE CELL 'sum', in the pinned program and in every row, IS THE sha256 OF THE DUMP (.gsa) THAT YbulkdaoqFmtProg.lean LOADS. Nothing in Lean hashes anything: it is a label: what it is worth is what the hold of that sum in a sandbox is worth. -/
noncomputable def Ybaf.pinned : Pinned := { name := "ybulkdaoqfmt", sum := "51a8385d9cca215e09b828bcde7eb96c872890ef4599a6b6675f25fa201f1f84", checked := Ybaf.checked }
namespace Rows
def none {H : Type} : Left H := { results := [], args := [] }

/-- 'causeline.LawS5099AEmptyIDIsName': WHATEVER THE INPUT: true; the input reads as it did. -/
def lawS5099AEmptyIDIsNameSpec : ChangeSpec := { name := "lawS5099AEmptyIDIsName", fn := fun _ => fun
  | [d1, d2] => { results := [.lit (.bool true)], args := [d1, d2] }
  | _ => none }
def lawS5099AEmptyIDIsNameRow : OpenClaim := { program := "ybulkdaoqfmt", sum := "51a8385d9cca215e09b828bcde7eb96c872890ef4599a6b6675f25fa201f1f84", func := "example.com/causeline/causeline.LawS5099AEmptyIDIsName", spec := "lawS5099AEmptyIDIsName", stops := ["fmt.Sprintf"], inPlace := ["fmt.Sprintf"], apart := false }
/-- NO THEOREM (fmt's text is open here; it may be false): for the released tool's asking of the row's closed facts alone. THE STATEMENT IS 'LawS5099AEmptyIDIsNameToldSaid' (YbulkdaoqFmtCards.lean). -/
def LawS5099AEmptyIDIsNameFormAsk : Prop := lawS5099AEmptyIDIsNameRow.holds Ybaf.pinned (OpenSpec.ofChange lawS5099AEmptyIDIsNameSpec)

/-- ITS FALSE NEIGHBOUR: 'it returns false'. Refute it at one input. -/
def lawS5099AEmptyIDIsNameWrong : ChangeSpec := { name := "lawS5099AEmptyIDIsName", fn := fun _ => fun
  | [d1, d2] => { results := [.lit (.bool false)], args := [d1, d2] }
  | _ => none }
def LawS5099AEmptyIDIsNameWrongFormAsk : Prop := lawS5099AEmptyIDIsNameRow.holds Ybaf.pinned (OpenSpec.ofChange lawS5099AEmptyIDIsNameWrong)

end Rows
end Go.Proofs.YbulkdaoqFmt
