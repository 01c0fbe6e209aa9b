/-
  No cell of these rows narrows 'for every input' (looked for: loops, veiled, ifaces, maps, wideKeys, modest, calm, conditions, laid).
  DERIVED. THE GIVEN ROWS OF THIS SEAT. 4 by the template 'for every input the law returns true; each argument reads behind the call as it read before'; 0 by the template 'total and deterministic' (their statements: YbulkdaoqTotals.lean).
  GIVEN WITH THE SEED: the statements are not yours to turn. If you find one false, say at which input.
  Laid BY PROGRAM, IN A SANDBOX (cutbox-rows.mjs): the forced cells as the released guide's own fill.sh prints them over the translation 0bba3c62f09c2ce1… (all of the seat's roots in one cut). By AI agents, Wed Nov 11 2026. No macro, syntax, notation, axiom, sorry.
-/
import Derived.Test.YbulkdaoqChecked
import GoSem.Claim
import GoSem.ClaimJoined
import GoSem.ClaimMapViews
import Derived.JoinedTies
import Derived.KernelRfl
namespace Go.Proofs.Ybulkdaoq
/- THE CELL 'sum', in the pinned program and in every row, IS THE sha256 OF THE DUMP (.gsa) THAT YbulkdaoqProg.lean LOADS. Nothing in Lean hashes anything: it is a label: what it is worth is what the hold of that sum in a sandbox is worth. -/
noncomputable def Yba.pinned : Pinned := { name := "ybulkdaoq", sum := "0bba3c62f09c2ce1c7b8333d4087a1b39bb96f54ee528c7525c61876c31a7af9", checked := Yba.checked }
namespace Rows
def none {H : Type} : Left H := { results := [], args := [] }

/-- 'causeline.LawS5099BHold': WHATEVER THE INPUT: true; the input reads as it did. -/
def lawS5099BHoldSpec : ChangeSpec := { name := "lawS5099BHold", fn := fun _ => fun
  | [d1, d2, d3, d4, d5] => { results := [.lit (.bool true)], args := [d1, d2, d3, d4, d5] }
  | _ => none }
def lawS5099BHoldRow : OpenClaim := { program := "ybulkdaoq", sum := "0bba3c62f09c2ce1c7b8333d4087a1b39bb96f54ee528c7525c61876c31a7af9", func := "example.com/causeline/causeline.LawS5099BHold", spec := "lawS5099BHold", apart := false }
def LawS5099BHoldSaid : Prop := lawS5099BHoldRow.holds Yba.pinned (OpenSpec.ofChange lawS5099BHoldSpec)

/-- ITS FALSE NEIGHBOUR: 'it returns false'. Refute it at one input. -/
def lawS5099BHoldWrong : ChangeSpec := { name := "lawS5099BHold", fn := fun _ => fun
  | [d1, d2, d3, d4, d5] => { results := [.lit (.bool false)], args := [d1, d2, d3, d4, d5] }
  | _ => none }
def LawS5099BHoldWrongFalsely : Prop := lawS5099BHoldRow.holds Yba.pinned (OpenSpec.ofChange lawS5099BHoldWrong)

/-- 'causeline.LawS5099BKeep': WHATEVER THE INPUT: true; the input reads as it did. -/
def lawS5099BKeepSpec : ChangeSpec := { name := "lawS5099BKeep", fn := fun _ => fun
  | [d1, d2, d3, d4] => { results := [.lit (.bool true)], args := [d1, d2, d3, d4] }
  | _ => none }
def lawS5099BKeepRow : OpenClaim := { program := "ybulkdaoq", sum := "0bba3c62f09c2ce1c7b8333d4087a1b39bb96f54ee528c7525c61876c31a7af9", func := "example.com/causeline/causeline.LawS5099BKeep", spec := "lawS5099BKeep", apart := false }
def LawS5099BKeepSaid : Prop := lawS5099BKeepRow.holds Yba.pinned (OpenSpec.ofChange lawS5099BKeepSpec)

/-- ITS FALSE NEIGHBOUR: 'it returns false'. Refute it at one input. -/
def lawS5099BKeepWrong : ChangeSpec := { name := "lawS5099BKeep", fn := fun _ => fun
  | [d1, d2, d3, d4] => { results := [.lit (.bool false)], args := [d1, d2, d3, d4] }
  | _ => none }
def LawS5099BKeepWrongFalsely : Prop := lawS5099BKeepRow.holds Yba.pinned (OpenSpec.ofChange lawS5099BKeepWrong)

/-- 'causeline.LawS5099CSorts': WHATEVER THE INPUT: true; the input reads as it did. -/
def lawS5099CSortsSpec : ChangeSpec := { name := "lawS5099CSorts", fn := fun _ => fun
  | [d1, d2] => { results := [.lit (.bool true)], args := [d1, d2] }
  | _ => none }
def lawS5099CSortsRow : OpenClaim := { program := "ybulkdaoq", sum := "0bba3c62f09c2ce1c7b8333d4087a1b39bb96f54ee528c7525c61876c31a7af9", func := "example.com/causeline/causeline.LawS5099CSorts", spec := "lawS5099CSorts", inPlace := ["internal/bytealg.abigen_runtime_cmpstring"], unfollowed := true, recurses := true, apart := false }
def LawS5099CSortsSaid : Prop := lawS5099CSortsRow.holds Yba.pinned (OpenSpec.ofChange lawS5099CSortsSpec)

/-- ITS FALSE NEIGHBOUR: 'it returns false'. Refute it at one input. -/
def lawS5099CSortsWrong : ChangeSpec := { name := "lawS5099CSorts", fn := fun _ => fun
  | [d1, d2] => { results := [.lit (.bool false)], args := [d1, d2] }
  | _ => none }
def LawS5099CSortsWrongFalsely : Prop := lawS5099CSortsRow.holds Yba.pinned (OpenSpec.ofChange lawS5099CSortsWrong)

/-- 'causeline.LawS5099CMost': WHATEVER THE INPUT: true; the input reads as it did. -/
def lawS5099CMostSpec : ChangeSpec := { name := "lawS5099CMost", fn := fun _ => fun
  | [d1, d2] => { results := [.lit (.bool true)], args := [d1, d2] }
  | _ => none }
def lawS5099CMostRow : OpenClaim := { program := "ybulkdaoq", sum := "0bba3c62f09c2ce1c7b8333d4087a1b39bb96f54ee528c7525c61876c31a7af9", func := "example.com/causeline/causeline.LawS5099CMost", spec := "lawS5099CMost", inPlace := ["internal/bytealg.abigen_runtime_cmpstring"], unfollowed := true, recurses := true, apart := false }
def LawS5099CMostSaid : Prop := lawS5099CMostRow.holds Yba.pinned (OpenSpec.ofChange lawS5099CMostSpec)

/-- ITS FALSE NEIGHBOUR: 'it returns false'. Refute it at one input. -/
def lawS5099CMostWrong : ChangeSpec := { name := "lawS5099CMost", fn := fun _ => fun
  | [d1, d2] => { results := [.lit (.bool false)], args := [d1, d2] }
  | _ => none }
def LawS5099CMostWrongFalsely : Prop := lawS5099CMostRow.holds Yba.pinned (OpenSpec.ofChange lawS5099CMostWrong)

end Rows
end Go.Proofs.Ybulkdaoq
