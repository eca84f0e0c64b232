/-
  No cell of these rows narrows 'for every input' (looked for: loops, veiled, ifaces, maps, wideKeys, modest, calm, conditions, laid).
  DERIVED. THE GIVEN ROWS OF THIS SEAT. 5 by the template 'for every input the law returns true; each argument reads behind the call as it read before'; 0 by the template 'total and deterministic' (their statements: YbulkkmyTotals.lean).
  GIVEN WITH THE SEED: the statements are not yours to turn. If you find one false, say at which input.
  Laid BY PROGRAM, IN A SANDBOX (cutbox-rows.mjs): the forced cells as the released guide's own fill.sh prints them over the translation 22cc311ce0b7d1dc… (all of the seat's roots in one cut). By AI agents, Wed Nov 11 2026. No macro, syntax, notation, axiom, sorry.
-/
import Derived.Test.YbulkkmyChecked
import GoSem.Claim
import GoSem.ClaimJoined
import GoSem.ClaimMapViews
import Derived.JoinedTies
import Derived.KernelRfl
namespace Go.Proofs.Ybulkkmy
/- THE CELL 'sum', in the pinned program and in every row, IS THE sha256 OF THE DUMP (.gsa) THAT YbulkkmyProg.lean LOADS. Nothing in Lean hashes anything: it is a label: what it is worth is what the hold of that sum in a sandbox is worth. -/
noncomputable def Yba.pinned : Pinned := { name := "ybulkkmy", sum := "22cc311ce0b7d1dc1992bf4282eee2ac57640cb3aaea3eed44a81144982d0afa", checked := Yba.checked }
namespace Rows
def none {H : Type} : Left H := { results := [], args := [] }

/-- 'lexwright.LawS0557AExact': WHATEVER THE INPUT: true; the input reads as it did. -/
def lawS0557AExactSpec : ChangeSpec := { name := "lawS0557AExact", fn := fun _ => fun
  | [d1, d2, d3, d4] => { results := [.lit (.bool true)], args := [d1, d2, d3, d4] }
  | _ => none }
def lawS0557AExactRow : OpenClaim := { program := "ybulkkmy", sum := "22cc311ce0b7d1dc1992bf4282eee2ac57640cb3aaea3eed44a81144982d0afa", func := "example.com/lexwright/lexwright.LawS0557AExact", spec := "lawS0557AExact", apart := false }
def LawS0557AExactSaid : Prop := lawS0557AExactRow.holds Yba.pinned (OpenSpec.ofChange lawS0557AExactSpec)

/-- ITS FALSE NEIGHBOUR: 'it returns false'. Refute it at one input. -/
def lawS0557AExactWrong : ChangeSpec := { name := "lawS0557AExact", fn := fun _ => fun
  | [d1, d2, d3, d4] => { results := [.lit (.bool false)], args := [d1, d2, d3, d4] }
  | _ => none }
def LawS0557AExactWrongFalsely : Prop := lawS0557AExactRow.holds Yba.pinned (OpenSpec.ofChange lawS0557AExactWrong)

/-- 'lexwright.LawS0557BPlainPop': WHATEVER THE INPUT: true; the input reads as it did. -/
def lawS0557BPlainPopSpec : ChangeSpec := { name := "lawS0557BPlainPop", fn := fun _ => fun
  | [d1, d2, d3] => { results := [.lit (.bool true)], args := [d1, d2, d3] }
  | _ => none }
def lawS0557BPlainPopRow : OpenClaim := { program := "ybulkkmy", sum := "22cc311ce0b7d1dc1992bf4282eee2ac57640cb3aaea3eed44a81144982d0afa", func := "example.com/lexwright/lexwright.LawS0557BPlainPop", spec := "lawS0557BPlainPop", apart := false }
def LawS0557BPlainPopSaid : Prop := lawS0557BPlainPopRow.holds Yba.pinned (OpenSpec.ofChange lawS0557BPlainPopSpec)

/-- ITS FALSE NEIGHBOUR: 'it returns false'. Refute it at one input. -/
def lawS0557BPlainPopWrong : ChangeSpec := { name := "lawS0557BPlainPop", fn := fun _ => fun
  | [d1, d2, d3] => { results := [.lit (.bool false)], args := [d1, d2, d3] }
  | _ => none }
def LawS0557BPlainPopWrongFalsely : Prop := lawS0557BPlainPopRow.holds Yba.pinned (OpenSpec.ofChange lawS0557BPlainPopWrong)

/-- 'lexwright.LawS0557CByValue': WHATEVER THE INPUT: true; the input reads as it did. -/
def lawS0557CByValueSpec : ChangeSpec := { name := "lawS0557CByValue", fn := fun _ => fun
  | [d1, d2] => { results := [.lit (.bool true)], args := [d1, d2] }
  | _ => none }
def lawS0557CByValueRow : OpenClaim := { program := "ybulkkmy", sum := "22cc311ce0b7d1dc1992bf4282eee2ac57640cb3aaea3eed44a81144982d0afa", func := "example.com/lexwright/lexwright.LawS0557CByValue", spec := "lawS0557CByValue", apart := false }
def LawS0557CByValueSaid : Prop := lawS0557CByValueRow.holds Yba.pinned (OpenSpec.ofChange lawS0557CByValueSpec)

/-- ITS FALSE NEIGHBOUR: 'it returns false'. Refute it at one input. -/
def lawS0557CByValueWrong : ChangeSpec := { name := "lawS0557CByValue", fn := fun _ => fun
  | [d1, d2] => { results := [.lit (.bool false)], args := [d1, d2] }
  | _ => none }
def LawS0557CByValueWrongFalsely : Prop := lawS0557CByValueRow.holds Yba.pinned (OpenSpec.ofChange lawS0557CByValueWrong)

/-- 'lexwright.LawS0557CLinked': WHATEVER THE INPUT: true; the input reads as it did. -/
def lawS0557CLinkedSpec : ChangeSpec := { name := "lawS0557CLinked", fn := fun _ => fun
  | [d1, d2] => { results := [.lit (.bool true)], args := [d1, d2] }
  | _ => none }
def lawS0557CLinkedRow : OpenClaim := { program := "ybulkkmy", sum := "22cc311ce0b7d1dc1992bf4282eee2ac57640cb3aaea3eed44a81144982d0afa", func := "example.com/lexwright/lexwright.LawS0557CLinked", spec := "lawS0557CLinked", apart := false }
def LawS0557CLinkedSaid : Prop := lawS0557CLinkedRow.holds Yba.pinned (OpenSpec.ofChange lawS0557CLinkedSpec)

/-- ITS FALSE NEIGHBOUR: 'it returns false'. Refute it at one input. -/
def lawS0557CLinkedWrong : ChangeSpec := { name := "lawS0557CLinked", fn := fun _ => fun
  | [d1, d2] => { results := [.lit (.bool false)], args := [d1, d2] }
  | _ => none }
def LawS0557CLinkedWrongFalsely : Prop := lawS0557CLinkedRow.holds Yba.pinned (OpenSpec.ofChange lawS0557CLinkedWrong)

/-- 'lexwright.LawS0557CJoinTake': WHATEVER THE INPUT: true; the input reads as it did. -/
def lawS0557CJoinTakeSpec : ChangeSpec := { name := "lawS0557CJoinTake", fn := fun _ => fun
  | [d1, d2, d3, d4] => { results := [.lit (.bool true)], args := [d1, d2, d3, d4] }
  | _ => none }
def lawS0557CJoinTakeRow : OpenClaim := { program := "ybulkkmy", sum := "22cc311ce0b7d1dc1992bf4282eee2ac57640cb3aaea3eed44a81144982d0afa", func := "example.com/lexwright/lexwright.LawS0557CJoinTake", spec := "lawS0557CJoinTake", apart := false }
def LawS0557CJoinTakeSaid : Prop := lawS0557CJoinTakeRow.holds Yba.pinned (OpenSpec.ofChange lawS0557CJoinTakeSpec)

/-- ITS FALSE NEIGHBOUR: 'it returns false'. Refute it at one input. -/
def lawS0557CJoinTakeWrong : ChangeSpec := { name := "lawS0557CJoinTake", fn := fun _ => fun
  | [d1, d2, d3, d4] => { results := [.lit (.bool false)], args := [d1, d2, d3, d4] }
  | _ => none }
def LawS0557CJoinTakeWrongFalsely : Prop := lawS0557CJoinTakeRow.holds Yba.pinned (OpenSpec.ofChange lawS0557CJoinTakeWrong)

end Rows
end Go.Proofs.Ybulkkmy
