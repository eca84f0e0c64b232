/-
  No cell of these rows narrows 'for every input' (looked for: loops, veiled, ifaces, maps, wideKeys, modest, calm, conditions, laid).
  DERIVED. THE GIVEN ROWS OF THIS SEAT. 2 by the template 'for every input the law returns true; each argument reads behind the call as it read before'; 0 by the template 'total and deterministic' (their statements: YbulkkliTotals.lean).
  GIVEN WITH THE SEED: the statements are not yours to turn. If you find one false, say at which input.
  Laid BY PROGRAM, IN A SANDBOX (cutbox-rows.mjs): the forced cells as the released guide's own fill.sh prints them over the translation 76764935ce6ee252… (all of the seat's roots in one cut). By AI agents, Wed Nov 11 2026. No macro, syntax, notation, axiom, sorry.
-/
import Derived.Test.YbulkkliChecked
import GoSem.Claim
import GoSem.ClaimJoined
import GoSem.ClaimMapViews
import Derived.JoinedTies
import Derived.KernelRfl
namespace Go.Proofs.Ybulkkli
/- THE CELL 'sum', in the pinned program and in every row, IS THE sha256 OF THE DUMP (.gsa) THAT YbulkkliProg.lean LOADS. Nothing in Lean hashes anything: it is a label: what it is worth is what the hold of that sum in a sandbox is worth. -/
noncomputable def Yba.pinned : Pinned := { name := "ybulkkli", sum := "76764935ce6ee252d78461c6e97a7f85ecf0e14c60785193a4f338bb23af7fec", checked := Yba.checked }
namespace Rows
def none {H : Type} : Left H := { results := [], args := [] }

/-- 'replay.LawS0554CExact': WHATEVER THE INPUT: true; the input reads as it did. -/
def lawS0554CExactSpec : ChangeSpec := { name := "lawS0554CExact", fn := fun _ => fun
  | [d1, d2, d3, d4] => { results := [.lit (.bool true)], args := [d1, d2, d3, d4] }
  | _ => none }
def lawS0554CExactRow : OpenClaim := { program := "ybulkkli", sum := "76764935ce6ee252d78461c6e97a7f85ecf0e14c60785193a4f338bb23af7fec", func := "example.com/lotkeeper/lotkeeper/replay.LawS0554CExact", spec := "lawS0554CExact", apart := false }
def LawS0554CExactSaid : Prop := lawS0554CExactRow.holds Yba.pinned (OpenSpec.ofChange lawS0554CExactSpec)

/-- ITS FALSE NEIGHBOUR: 'it returns false'. Refute it at one input. -/
def lawS0554CExactWrong : ChangeSpec := { name := "lawS0554CExact", fn := fun _ => fun
  | [d1, d2, d3, d4] => { results := [.lit (.bool false)], args := [d1, d2, d3, d4] }
  | _ => none }
def LawS0554CExactWrongFalsely : Prop := lawS0554CExactRow.holds Yba.pinned (OpenSpec.ofChange lawS0554CExactWrong)

/-- 'replay.LawS0554CRounds': WHATEVER THE INPUT: true; the input reads as it did. -/
def lawS0554CRoundsSpec : ChangeSpec := { name := "lawS0554CRounds", fn := fun _ => fun
  | [d1, d2, d3] => { results := [.lit (.bool true)], args := [d1, d2, d3] }
  | _ => none }
def lawS0554CRoundsRow : OpenClaim := { program := "ybulkkli", sum := "76764935ce6ee252d78461c6e97a7f85ecf0e14c60785193a4f338bb23af7fec", func := "example.com/lotkeeper/lotkeeper/replay.LawS0554CRounds", spec := "lawS0554CRounds", apart := false }
def LawS0554CRoundsSaid : Prop := lawS0554CRoundsRow.holds Yba.pinned (OpenSpec.ofChange lawS0554CRoundsSpec)

/-- ITS FALSE NEIGHBOUR: 'it returns false'. Refute it at one input. -/
def lawS0554CRoundsWrong : ChangeSpec := { name := "lawS0554CRounds", fn := fun _ => fun
  | [d1, d2, d3] => { results := [.lit (.bool false)], args := [d1, d2, d3] }
  | _ => none }
def LawS0554CRoundsWrongFalsely : Prop := lawS0554CRoundsRow.holds Yba.pinned (OpenSpec.ofChange lawS0554CRoundsWrong)

end Rows
end Go.Proofs.Ybulkkli
