/-
  No cell of these rows narrows 'for every input' (looked for: loops, veiled, ifaces, maps, wideKeys, modest, calm, conditions, laid).
  DERIVED. THE GIVEN ROWS OF THIS SEAT. 1 by the template 'for every input the law returns true; each argument reads behind the call as it read before'; 0 by the template 'total and deterministic' (their statements: YbulkkduTotals.lean).
  GIVEN WITH THE SEED: the statements are not yours to turn. If you find one false, say at which input.
  Laid BY PROGRAM, IN A SANDBOX (cutbox-rows.mjs): the forced cells as the released guide's own fill.sh prints them over the translation 66c0b6ad4aeece50… (all of the seat's roots in one cut). By AI agents, Wed Nov 11 2026. No macro, syntax, notation, axiom, sorry.
-/
import Derived.Test.YbulkkduChecked
import GoSem.Claim
import GoSem.ClaimJoined
import GoSem.ClaimMapViews
import Derived.JoinedTies
import Derived.KernelRfl
namespace Go.Proofs.Ybulkkdu
/- THE CELL 'sum', in the pinned program and in every row, IS THE sha256 OF THE DUMP (.gsa) THAT YbulkkduProg.lean LOADS. Nothing in Lean hashes anything: it is a label: what it is worth is what the hold of that sum in a sandbox is worth. -/
noncomputable def Yba.pinned : Pinned := { name := "ybulkkdu", sum := "66c0b6ad4aeece50f9ba9e486915399c61d4edc03e4b134cb3abdb87d3dc07ed", checked := Yba.checked }
namespace Rows
def none {H : Type} : Left H := { results := [], args := [] }

/-- 'causeway.LawS0540BExact': WHATEVER THE INPUT: true; the input reads as it did. -/
def lawS0540BExactSpec : ChangeSpec := { name := "lawS0540BExact", fn := fun _ => fun
  | [d1, d2, d3, d4] => { results := [.lit (.bool true)], args := [d1, d2, d3, d4] }
  | _ => none }
def lawS0540BExactRow : OpenClaim := { program := "ybulkkdu", sum := "66c0b6ad4aeece50f9ba9e486915399c61d4edc03e4b134cb3abdb87d3dc07ed", func := "example.com/causeway/causeway.LawS0540BExact", spec := "lawS0540BExact", apart := false }
def LawS0540BExactSaid : Prop := lawS0540BExactRow.holds Yba.pinned (OpenSpec.ofChange lawS0540BExactSpec)

/-- ITS FALSE NEIGHBOUR: 'it returns false'. Refute it at one input. -/
def lawS0540BExactWrong : ChangeSpec := { name := "lawS0540BExact", fn := fun _ => fun
  | [d1, d2, d3, d4] => { results := [.lit (.bool false)], args := [d1, d2, d3, d4] }
  | _ => none }
def LawS0540BExactWrongFalsely : Prop := lawS0540BExactRow.holds Yba.pinned (OpenSpec.ofChange lawS0540BExactWrong)

end Rows
end Go.Proofs.Ybulkkdu
