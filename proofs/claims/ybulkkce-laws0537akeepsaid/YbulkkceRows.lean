/-
  No cell of these rows narrows 'for every input' (looked for: loops, veiled, ifaces, maps, wideKeys, modest, calm, conditions, laid).
  DERIVED. THE GIVEN ROWS OF THIS SEAT. 3 by the template 'for every input the law returns true; each argument reads behind the call as it read before'; 0 by the template 'total and deterministic' (their statements: YbulkkceTotals.lean).
  GIVEN WITH THE SEED: the statements are not yours to turn. If you find one false, say at which input.
  Laid BY PROGRAM, IN A SANDBOX (cutbox-rows.mjs): the forced cells as the released guide's own fill.sh prints them over the translation 8b64204a862cd634… (all of the seat's roots in one cut). By AI agents, Wed Nov 11 2026. No macro, syntax, notation, axiom, sorry.
-/
import Derived.Test.YbulkkceChecked
import GoSem.Claim
import GoSem.ClaimJoined
import GoSem.ClaimMapViews
import Derived.JoinedTies
import Derived.KernelRfl
namespace Go.Proofs.Ybulkkce
/- THE CELL 'sum', in the pinned program and in every row, IS THE sha256 OF THE DUMP (.gsa) THAT YbulkkceProg.lean LOADS. Nothing in Lean hashes anything: it is a label: what it is worth is what the hold of that sum in a sandbox is worth. -/
noncomputable def Yba.pinned : Pinned := { name := "ybulkkce", sum := "8b64204a862cd634fd99ac53b21e08bb302b8e53b8b50b82c83460609b5d5813", checked := Yba.checked }
namespace Rows
def none {H : Type} : Left H := { results := [], args := [] }

/-- 'optwire.LawS0537AModel': WHATEVER THE INPUT: true; the input reads as it did. -/
def lawS0537AModelSpec : ChangeSpec := { name := "lawS0537AModel", fn := fun _ => fun
  | [d1, d2, d3, d4, d5] => { results := [.lit (.bool true)], args := [d1, d2, d3, d4, d5] }
  | _ => none }
def lawS0537AModelRow : OpenClaim := { program := "ybulkkce", sum := "8b64204a862cd634fd99ac53b21e08bb302b8e53b8b50b82c83460609b5d5813", func := "example.com/optwire/optwire.LawS0537AModel", spec := "lawS0537AModel", apart := false }
def LawS0537AModelSaid : Prop := lawS0537AModelRow.holds Yba.pinned (OpenSpec.ofChange lawS0537AModelSpec)

/-- ITS FALSE NEIGHBOUR: 'it returns false'. Refute it at one input. -/
def lawS0537AModelWrong : ChangeSpec := { name := "lawS0537AModel", fn := fun _ => fun
  | [d1, d2, d3, d4, d5] => { results := [.lit (.bool false)], args := [d1, d2, d3, d4, d5] }
  | _ => none }
def LawS0537AModelWrongFalsely : Prop := lawS0537AModelRow.holds Yba.pinned (OpenSpec.ofChange lawS0537AModelWrong)

/-- 'optwire.LawS0537AKeep': WHATEVER THE INPUT: true; the input reads as it did. -/
def lawS0537AKeepSpec : ChangeSpec := { name := "lawS0537AKeep", fn := fun _ => fun
  | [d1, d2] => { results := [.lit (.bool true)], args := [d1, d2] }
  | _ => none }
def lawS0537AKeepRow : OpenClaim := { program := "ybulkkce", sum := "8b64204a862cd634fd99ac53b21e08bb302b8e53b8b50b82c83460609b5d5813", func := "example.com/optwire/optwire.LawS0537AKeep", spec := "lawS0537AKeep", apart := false }
def LawS0537AKeepSaid : Prop := lawS0537AKeepRow.holds Yba.pinned (OpenSpec.ofChange lawS0537AKeepSpec)

/-- ITS FALSE NEIGHBOUR: 'it returns false'. Refute it at one input. -/
def lawS0537AKeepWrong : ChangeSpec := { name := "lawS0537AKeep", fn := fun _ => fun
  | [d1, d2] => { results := [.lit (.bool false)], args := [d1, d2] }
  | _ => none }
def LawS0537AKeepWrongFalsely : Prop := lawS0537AKeepRow.holds Yba.pinned (OpenSpec.ofChange lawS0537AKeepWrong)

/-- 'optwire.LawS0537CAppend': WHATEVER THE INPUT: true; the input reads as it did. -/
def lawS0537CAppendSpec : ChangeSpec := { name := "lawS0537CAppend", fn := fun _ => fun
  | [d1, d2, d3, d4] => { results := [.lit (.bool true)], args := [d1, d2, d3, d4] }
  | _ => none }
def lawS0537CAppendRow : OpenClaim := { program := "ybulkkce", sum := "8b64204a862cd634fd99ac53b21e08bb302b8e53b8b50b82c83460609b5d5813", func := "example.com/optwire/optwire.LawS0537CAppend", spec := "lawS0537CAppend", named := ["encoding/binary.BigEndian"], apart := false }
def LawS0537CAppendSaid : Prop := lawS0537CAppendRow.holds Yba.pinned (OpenSpec.ofChange lawS0537CAppendSpec)

/-- ITS FALSE NEIGHBOUR: 'it returns false'. Refute it at one input. -/
def lawS0537CAppendWrong : ChangeSpec := { name := "lawS0537CAppend", fn := fun _ => fun
  | [d1, d2, d3, d4] => { results := [.lit (.bool false)], args := [d1, d2, d3, d4] }
  | _ => none }
def LawS0537CAppendWrongFalsely : Prop := lawS0537CAppendRow.holds Yba.pinned (OpenSpec.ofChange lawS0537CAppendWrong)

end Rows
end Go.Proofs.Ybulkkce
