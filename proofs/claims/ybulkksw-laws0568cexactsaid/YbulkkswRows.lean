/-
  No cell of these rows narrows 'for every input' (looked for: loops, veiled, ifaces, maps, wideKeys, modest, calm, conditions, laid).
  DERIVED. THE GIVEN ROWS OF THIS SEAT. 2 by the template 'for every input the law returns true; each argument reads behind the call as it read before'; 0 by the template 'total and deterministic' (their statements: YbulkkswTotals.lean).
  GIVEN WITH THE SEED: the statements are not yours to turn. If you find one false, say at which input.
  Laid BY PROGRAM, IN A SANDBOX (cutbox-rows.mjs): the forced cells as the released guide's own fill.sh prints them over the translation d024bef7cef4f9a6… (all of the seat's roots in one cut). By AI agents, Wed Nov 11 2026. No macro, syntax, notation, axiom, sorry.
-/
import Derived.Test.YbulkkswChecked
import GoSem.Claim
import GoSem.ClaimJoined
import GoSem.ClaimMapViews
import Derived.JoinedTies
import Derived.KernelRfl
namespace Go.Proofs.Ybulkksw
/- THE CELL 'sum', in the pinned program and in every row, IS THE sha256 OF THE DUMP (.gsa) THAT YbulkkswProg.lean LOADS. Nothing in Lean hashes anything: it is a label: what it is worth is what the hold of that sum in a sandbox is worth. -/
noncomputable def Yba.pinned : Pinned := { name := "ybulkksw", sum := "d024bef7cef4f9a6cda6a98d59cd488fa4fac6aabe3f41e58fe7155a152b37c5", checked := Yba.checked }
namespace Rows
def none {H : Type} : Left H := { results := [], args := [] }

/-- 'lines.LawS0568ABuilt': WHATEVER THE INPUT: true; the input reads as it did. -/
def lawS0568ABuiltSpec : ChangeSpec := { name := "lawS0568ABuilt", fn := fun _ => fun
  | [d1, d2] => { results := [.lit (.bool true)], args := [d1, d2] }
  | _ => none }
def lawS0568ABuiltRow : OpenClaim := { program := "ybulkksw", sum := "d024bef7cef4f9a6cda6a98d59cd488fa4fac6aabe3f41e58fe7155a152b37c5", func := "example.com/orrery/orrery/pkg/lines.LawS0568ABuilt", spec := "lawS0568ABuilt", unfollowed := true, recurses := true, apart := false }
def LawS0568ABuiltSaid : Prop := lawS0568ABuiltRow.holds Yba.pinned (OpenSpec.ofChange lawS0568ABuiltSpec)

/-- ITS FALSE NEIGHBOUR: 'it returns false'. Refute it at one input. -/
def lawS0568ABuiltWrong : ChangeSpec := { name := "lawS0568ABuilt", fn := fun _ => fun
  | [d1, d2] => { results := [.lit (.bool false)], args := [d1, d2] }
  | _ => none }
def LawS0568ABuiltWrongFalsely : Prop := lawS0568ABuiltRow.holds Yba.pinned (OpenSpec.ofChange lawS0568ABuiltWrong)

/-- 'divisible.LawS0568CExact': WHATEVER THE INPUT: true; the input reads as it did. -/
def lawS0568CExactSpec : ChangeSpec := { name := "lawS0568CExact", fn := fun _ => fun
  | [d1, d2, d3, d4] => { results := [.lit (.bool true)], args := [d1, d2, d3, d4] }
  | _ => none }
def lawS0568CExactRow : OpenClaim := { program := "ybulkksw", sum := "d024bef7cef4f9a6cda6a98d59cd488fa4fac6aabe3f41e58fe7155a152b37c5", func := "example.com/orrery/orrery/pkg/divisible.LawS0568CExact", spec := "lawS0568CExact", inPlace := ["math.Float64bits", "math.Float64frombits"], apart := false }
def LawS0568CExactSaid : Prop := lawS0568CExactRow.holds Yba.pinned (OpenSpec.ofChange lawS0568CExactSpec)

/-- ITS FALSE NEIGHBOUR: 'it returns false'. Refute it at one input. -/
def lawS0568CExactWrong : ChangeSpec := { name := "lawS0568CExact", fn := fun _ => fun
  | [d1, d2, d3, d4] => { results := [.lit (.bool false)], args := [d1, d2, d3, d4] }
  | _ => none }
def LawS0568CExactWrongFalsely : Prop := lawS0568CExactRow.holds Yba.pinned (OpenSpec.ofChange lawS0568CExactWrong)

end Rows
end Go.Proofs.Ybulkksw
