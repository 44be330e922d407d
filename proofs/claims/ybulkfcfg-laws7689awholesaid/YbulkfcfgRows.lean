/-
  No cell of these rows narrows 'for every input' (looked for: loops, veiled, ifaces, maps, wideKeys, modest, calm, conditions, laid).
  DERIVED. THE GIVEN ROWS OF THIS SEAT. 2 by the template 'for every input the law returns true; each argument reads behind the call as it read before'; 0 by the template 'total and deterministic' (their statements: YbulkfcfgTotals.lean).
  GIVEN WITH THE SEED: the statements are not yours to turn. If you find one false, say at which input.
  Laid BY PROGRAM, IN A SANDBOX (cutbox-rows.mjs): the forced cells as the released guide's own fill.sh prints them over the translation 83dbfc9a8b5b6305… (all of the seat's roots in one cut). By AI agents, Wed Nov 11 2026. No macro, syntax, notation, axiom, sorry.
-/
import Derived.Test.YbulkfcfgChecked
import GoSem.Claim
import GoSem.ClaimJoined
import GoSem.ClaimMapViews
import Derived.JoinedTies
import Derived.KernelRfl
namespace Go.Proofs.Ybulkfcfg
/- THE CELL 'sum', in the pinned program and in every row, IS THE sha256 OF THE DUMP (.gsa) THAT YbulkfcfgProg.lean LOADS. Nothing in Lean hashes anything: it is a label: what it is worth is what the hold of that sum in a sandbox is worth. -/
noncomputable def Yba.pinned : Pinned := { name := "ybulkfcfg", sum := "83dbfc9a8b5b6305c94ccc3a63ba73fa9479e35dbd0c011c27d8a4700f937564", checked := Yba.checked }
namespace Rows
def none {H : Type} : Left H := { results := [], args := [] }

/-- 'benchdata.LawS7689AWhole': WHATEVER THE INPUT: true; the input reads as it did. -/
def lawS7689AWholeSpec : ChangeSpec := { name := "lawS7689AWhole", fn := fun _ => fun
  | [d] => { results := [.lit (.bool true)], args := [d] }
  | _ => none }
def lawS7689AWholeRow : OpenClaim := { program := "ybulkfcfg", sum := "83dbfc9a8b5b6305c94ccc3a63ba73fa9479e35dbd0c011c27d8a4700f937564", func := "example.com/plumbline/plumbline/pkg/benchdata.LawS7689AWhole", spec := "lawS7689AWhole", apart := false }
def LawS7689AWholeSaid : Prop := lawS7689AWholeRow.holds Yba.pinned (OpenSpec.ofChange lawS7689AWholeSpec)

/-- ITS FALSE NEIGHBOUR: 'it returns false'. Refute it at one input. -/
def lawS7689AWholeWrong : ChangeSpec := { name := "lawS7689AWhole", fn := fun _ => fun
  | [d] => { results := [.lit (.bool false)], args := [d] }
  | _ => none }
def LawS7689AWholeWrongFalsely : Prop := lawS7689AWholeRow.holds Yba.pinned (OpenSpec.ofChange lawS7689AWholeWrong)

/-- 'benchdata.LawS7689BWhole': WHATEVER THE INPUT: true; the input reads as it did. -/
def lawS7689BWholeSpec : ChangeSpec := { name := "lawS7689BWhole", fn := fun _ => fun
  | [d] => { results := [.lit (.bool true)], args := [d] }
  | _ => none }
def lawS7689BWholeRow : OpenClaim := { program := "ybulkfcfg", sum := "83dbfc9a8b5b6305c94ccc3a63ba73fa9479e35dbd0c011c27d8a4700f937564", func := "example.com/plumbline/plumbline/pkg/benchdata.LawS7689BWhole", spec := "lawS7689BWhole", inPlace := ["internal/abi.NoEscape"], apart := false }
def LawS7689BWholeSaid : Prop := lawS7689BWholeRow.holds Yba.pinned (OpenSpec.ofChange lawS7689BWholeSpec)

/-- ITS FALSE NEIGHBOUR: 'it returns false'. Refute it at one input. -/
def lawS7689BWholeWrong : ChangeSpec := { name := "lawS7689BWhole", fn := fun _ => fun
  | [d] => { results := [.lit (.bool false)], args := [d] }
  | _ => none }
def LawS7689BWholeWrongFalsely : Prop := lawS7689BWholeRow.holds Yba.pinned (OpenSpec.ofChange lawS7689BWholeWrong)

end Rows
end Go.Proofs.Ybulkfcfg
