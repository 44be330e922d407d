/-
  No cell of these rows narrows 'for every input' (looked for: loops, veiled, ifaces, maps, wideKeys, modest, calm, conditions, laid).
  DERIVED. THE GIVEN ROWS OF THIS SEAT. 3 by the template 'for every input the law returns true; each argument reads behind the call as it read before'; 0 by the template 'total and deterministic' (their statements: YbulkezmsTotals.lean).
  GIVEN WITH THE SEED: the statements are not yours to turn. If you find one false, say at which input.
  Laid BY PROGRAM, IN A SANDBOX (cutbox-rows.mjs): the forced cells as the released guide's own fill.sh prints them over the translation ac2a2ecbd11d4aa5… (all of the seat's roots in one cut). By AI agents, Wed Nov 11 2026. No macro, syntax, notation, axiom, sorry.
-/
import Derived.Test.YbulkezmsChecked
import GoSem.Claim
import GoSem.ClaimJoined
import GoSem.ClaimMapViews
import Derived.JoinedTies
import Derived.KernelRfl
namespace Go.Proofs.Ybulkezms
/- THE CELL 'sum', in the pinned program and in every row, IS THE sha256 OF THE DUMP (.gsa) THAT YbulkezmsProg.lean LOADS. Nothing in Lean hashes anything: it is a label: what it is worth is what the hold of that sum in a sandbox is worth. -/
noncomputable def Yba.pinned : Pinned := { name := "ybulkezms", sum := "ac2a2ecbd11d4aa5fdc55ed4e6d39114ba9134ebc644ed2ae404781349fd4bb7", checked := Yba.checked }
namespace Rows
def none {H : Type} : Left H := { results := [], args := [] }

/-- 'pailmap.LawS7558AWhole': WHATEVER THE INPUT: true; the input reads as it did. -/
def lawS7558AWholeSpec : ChangeSpec := { name := "lawS7558AWhole", fn := fun _ => fun
  | [d1, d2] => { results := [.lit (.bool true)], args := [d1, d2] }
  | _ => none }
def lawS7558AWholeRow : OpenClaim := { program := "ybulkezms", sum := "ac2a2ecbd11d4aa5fdc55ed4e6d39114ba9134ebc644ed2ae404781349fd4bb7", func := "example.com/pailmap/pailmap.LawS7558AWhole", spec := "lawS7558AWhole", apart := false }
def LawS7558AWholeSaid : Prop := lawS7558AWholeRow.holds Yba.pinned (OpenSpec.ofChange lawS7558AWholeSpec)

/-- ITS FALSE NEIGHBOUR: 'it returns false'. Refute it at one input. -/
def lawS7558AWholeWrong : ChangeSpec := { name := "lawS7558AWhole", fn := fun _ => fun
  | [d1, d2] => { results := [.lit (.bool false)], args := [d1, d2] }
  | _ => none }
def LawS7558AWholeWrongFalsely : Prop := lawS7558AWholeRow.holds Yba.pinned (OpenSpec.ofChange lawS7558AWholeWrong)

/-- 'pailmap.LawS7558AMeaning': WHATEVER THE INPUT: true; the input reads as it did. -/
def lawS7558AMeaningSpec : ChangeSpec := { name := "lawS7558AMeaning", fn := fun _ => fun
  | [d1, d2] => { results := [.lit (.bool true)], args := [d1, d2] }
  | _ => none }
def lawS7558AMeaningRow : OpenClaim := { program := "ybulkezms", sum := "ac2a2ecbd11d4aa5fdc55ed4e6d39114ba9134ebc644ed2ae404781349fd4bb7", func := "example.com/pailmap/pailmap.LawS7558AMeaning", spec := "lawS7558AMeaning", apart := false }
def LawS7558AMeaningSaid : Prop := lawS7558AMeaningRow.holds Yba.pinned (OpenSpec.ofChange lawS7558AMeaningSpec)

/-- ITS FALSE NEIGHBOUR: 'it returns false'. Refute it at one input. -/
def lawS7558AMeaningWrong : ChangeSpec := { name := "lawS7558AMeaning", fn := fun _ => fun
  | [d1, d2] => { results := [.lit (.bool false)], args := [d1, d2] }
  | _ => none }
def LawS7558AMeaningWrongFalsely : Prop := lawS7558AMeaningRow.holds Yba.pinned (OpenSpec.ofChange lawS7558AMeaningWrong)

/-- 'pailmap.LawS7558BWhole': WHATEVER THE INPUT: true; the input reads as it did. -/
def lawS7558BWholeSpec : ChangeSpec := { name := "lawS7558BWhole", fn := fun _ => fun
  | [d1, d2, d3, d4, d5] => { results := [.lit (.bool true)], args := [d1, d2, d3, d4, d5] }
  | _ => none }
def lawS7558BWholeRow : OpenClaim := { program := "ybulkezms", sum := "ac2a2ecbd11d4aa5fdc55ed4e6d39114ba9134ebc644ed2ae404781349fd4bb7", func := "example.com/pailmap/pailmap.LawS7558BWhole", spec := "lawS7558BWhole", apart := false }
def LawS7558BWholeSaid : Prop := lawS7558BWholeRow.holds Yba.pinned (OpenSpec.ofChange lawS7558BWholeSpec)

/-- ITS FALSE NEIGHBOUR: 'it returns false'. Refute it at one input. -/
def lawS7558BWholeWrong : ChangeSpec := { name := "lawS7558BWhole", fn := fun _ => fun
  | [d1, d2, d3, d4, d5] => { results := [.lit (.bool false)], args := [d1, d2, d3, d4, d5] }
  | _ => none }
def LawS7558BWholeWrongFalsely : Prop := lawS7558BWholeRow.holds Yba.pinned (OpenSpec.ofChange lawS7558BWholeWrong)

end Rows
end Go.Proofs.Ybulkezms
