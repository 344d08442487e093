/-
  No cell of these rows narrows 'for every input' (looked for: loops, veiled, ifaces, maps, wideKeys, modest, calm, conditions, laid).
  DERIVED. THE GIVEN ROWS OF THIS SEAT. 5 by the template 'for every input the law returns true; each argument reads behind the call as it read before'; 0 by the template 'total and deterministic' (their statements: YbulkjykTotals.lean).
  GIVEN WITH THE SEED: the statements are not yours to turn. If you find one false, say at which input.
  Laid BY PROGRAM, IN A SANDBOX (cutbox-rows.mjs): the forced cells as the released guide's own fill.sh prints them over the translation 8f6719f8dcd36ad2… (all of the seat's roots in one cut). By AI agents, Wed Nov 11 2026. No macro, syntax, notation, axiom, sorry.
-/
import Derived.Test.YbulkjykChecked
import GoSem.Claim
import GoSem.ClaimJoined
import GoSem.ClaimMapViews
import Derived.JoinedTies
import Derived.KernelRfl
namespace Go.Proofs.Ybulkjyk
/- THE CELL 'sum', in the pinned program and in every row, IS THE sha256 OF THE DUMP (.gsa) THAT YbulkjykProg.lean LOADS. Nothing in Lean hashes anything: it is a label: what it is worth is what the hold of that sum in a sandbox is worth. -/
noncomputable def Yba.pinned : Pinned := { name := "ybulkjyk", sum := "8f6719f8dcd36ad266a7eab12f2319bd230b93cb6177ecf9faff80472df00be0", checked := Yba.checked }
namespace Rows
def none {H : Type} : Left H := { results := [], args := [] }

/-- 'eunomia.LawS0530ASingle': WHATEVER THE INPUT: true; the input reads as it did. -/
def lawS0530ASingleSpec : ChangeSpec := { name := "lawS0530ASingle", fn := fun _ => fun
  | [d1, d2, d3, d4] => { results := [.lit (.bool true)], args := [d1, d2, d3, d4] }
  | _ => none }
def lawS0530ASingleRow : OpenClaim := { program := "ybulkjyk", sum := "8f6719f8dcd36ad266a7eab12f2319bd230b93cb6177ecf9faff80472df00be0", func := "example.com/eunomia/eunomia.LawS0530ASingle", spec := "lawS0530ASingle", apart := false }
def LawS0530ASingleSaid : Prop := lawS0530ASingleRow.holds Yba.pinned (OpenSpec.ofChange lawS0530ASingleSpec)

/-- ITS FALSE NEIGHBOUR: 'it returns false'. Refute it at one input. -/
def lawS0530ASingleWrong : ChangeSpec := { name := "lawS0530ASingle", fn := fun _ => fun
  | [d1, d2, d3, d4] => { results := [.lit (.bool false)], args := [d1, d2, d3, d4] }
  | _ => none }
def LawS0530ASingleWrongFalsely : Prop := lawS0530ASingleRow.holds Yba.pinned (OpenSpec.ofChange lawS0530ASingleWrong)

/-- 'eunomia.LawS0530BMapped': WHATEVER THE INPUT: true; the input reads as it did. -/
def lawS0530BMappedSpec : ChangeSpec := { name := "lawS0530BMapped", fn := fun _ => fun
  | [d] => { results := [.lit (.bool true)], args := [d] }
  | _ => none }
def lawS0530BMappedRow : OpenClaim := { program := "ybulkjyk", sum := "8f6719f8dcd36ad266a7eab12f2319bd230b93cb6177ecf9faff80472df00be0", func := "example.com/eunomia/eunomia.LawS0530BMapped", spec := "lawS0530BMapped", apart := false }
def LawS0530BMappedSaid : Prop := lawS0530BMappedRow.holds Yba.pinned (OpenSpec.ofChange lawS0530BMappedSpec)

/-- ITS FALSE NEIGHBOUR: 'it returns false'. Refute it at one input. -/
def lawS0530BMappedWrong : ChangeSpec := { name := "lawS0530BMapped", fn := fun _ => fun
  | [d] => { results := [.lit (.bool false)], args := [d] }
  | _ => none }
def LawS0530BMappedWrongFalsely : Prop := lawS0530BMappedRow.holds Yba.pinned (OpenSpec.ofChange lawS0530BMappedWrong)

/-- 'eunomia.LawS0530BRaw': WHATEVER THE INPUT: true; the input reads as it did. -/
def lawS0530BRawSpec : ChangeSpec := { name := "lawS0530BRaw", fn := fun _ => fun
  | [d] => { results := [.lit (.bool true)], args := [d] }
  | _ => none }
def lawS0530BRawRow : OpenClaim := { program := "ybulkjyk", sum := "8f6719f8dcd36ad266a7eab12f2319bd230b93cb6177ecf9faff80472df00be0", func := "example.com/eunomia/eunomia.LawS0530BRaw", spec := "lawS0530BRaw", apart := false }
def LawS0530BRawSaid : Prop := lawS0530BRawRow.holds Yba.pinned (OpenSpec.ofChange lawS0530BRawSpec)

/-- ITS FALSE NEIGHBOUR: 'it returns false'. Refute it at one input. -/
def lawS0530BRawWrong : ChangeSpec := { name := "lawS0530BRaw", fn := fun _ => fun
  | [d] => { results := [.lit (.bool false)], args := [d] }
  | _ => none }
def LawS0530BRawWrongFalsely : Prop := lawS0530BRawRow.holds Yba.pinned (OpenSpec.ofChange lawS0530BRawWrong)

/-- 'eunomia.LawS0530CTable': WHATEVER THE INPUT: true; the input reads as it did. -/
def lawS0530CTableSpec : ChangeSpec := { name := "lawS0530CTable", fn := fun _ => fun
  | [d1, d2, d3, d4] => { results := [.lit (.bool true)], args := [d1, d2, d3, d4] }
  | _ => none }
def lawS0530CTableRow : OpenClaim := { program := "ybulkjyk", sum := "8f6719f8dcd36ad266a7eab12f2319bd230b93cb6177ecf9faff80472df00be0", func := "example.com/eunomia/eunomia.LawS0530CTable", spec := "lawS0530CTable", apart := false }
def LawS0530CTableSaid : Prop := lawS0530CTableRow.holds Yba.pinned (OpenSpec.ofChange lawS0530CTableSpec)

/-- ITS FALSE NEIGHBOUR: 'it returns false'. Refute it at one input. -/
def lawS0530CTableWrong : ChangeSpec := { name := "lawS0530CTable", fn := fun _ => fun
  | [d1, d2, d3, d4] => { results := [.lit (.bool false)], args := [d1, d2, d3, d4] }
  | _ => none }
def LawS0530CTableWrongFalsely : Prop := lawS0530CTableRow.holds Yba.pinned (OpenSpec.ofChange lawS0530CTableWrong)

/-- 'eunomia.LawS0530CKnownMatchesAccountless': WHATEVER THE INPUT: true; the input reads as it did. -/
def lawS0530CKnownMatchesAccountlessSpec : ChangeSpec := { name := "lawS0530CKnownMatchesAccountless", fn := fun _ => fun
  | [d1, d2, d3] => { results := [.lit (.bool true)], args := [d1, d2, d3] }
  | _ => none }
def lawS0530CKnownMatchesAccountlessRow : OpenClaim := { program := "ybulkjyk", sum := "8f6719f8dcd36ad266a7eab12f2319bd230b93cb6177ecf9faff80472df00be0", func := "example.com/eunomia/eunomia.LawS0530CKnownMatchesAccountless", spec := "lawS0530CKnownMatchesAccountless", apart := false }
def LawS0530CKnownMatchesAccountlessSaid : Prop := lawS0530CKnownMatchesAccountlessRow.holds Yba.pinned (OpenSpec.ofChange lawS0530CKnownMatchesAccountlessSpec)

/-- ITS FALSE NEIGHBOUR: 'it returns false'. Refute it at one input. -/
def lawS0530CKnownMatchesAccountlessWrong : ChangeSpec := { name := "lawS0530CKnownMatchesAccountless", fn := fun _ => fun
  | [d1, d2, d3] => { results := [.lit (.bool false)], args := [d1, d2, d3] }
  | _ => none }
def LawS0530CKnownMatchesAccountlessWrongFalsely : Prop := lawS0530CKnownMatchesAccountlessRow.holds Yba.pinned (OpenSpec.ofChange lawS0530CKnownMatchesAccountlessWrong)

end Rows
end Go.Proofs.Ybulkjyk
