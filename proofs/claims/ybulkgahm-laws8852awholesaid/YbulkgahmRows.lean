/-
  No cell of these rows narrows 'for every input' (looked for: loops, veiled, ifaces, maps, wideKeys, modest, calm, conditions, laid).
  DERIVED. THE GIVEN ROWS OF THIS SEAT. 2 by the template 'for every input the law returns true; each argument reads behind the call as it read before'; 0 by the template 'total and deterministic' (their statements: YbulkgahmTotals.lean).
  GIVEN WITH THE SEED: the statements are not yours to turn. If you find one false, say at which input.
  Laid BY PROGRAM, IN A SANDBOX (cutbox-rows.mjs): the forced cells as the released guide's own fill.sh prints them over the translation 4942b83d59bf927b… (all of the seat's roots in one cut). By AI agents, Wed Nov 11 2026. No macro, syntax, notation, axiom, sorry.
-/
import Derived.Test.YbulkgahmChecked
import GoSem.Claim
import GoSem.ClaimJoined
import GoSem.ClaimMapViews
import Derived.JoinedTies
import Derived.KernelRfl
namespace Go.Proofs.Ybulkgahm
/- THE CELL 'sum', in the pinned program and in every row, IS THE sha256 OF THE DUMP (.gsa) THAT YbulkgahmProg.lean LOADS. Nothing in Lean hashes anything: it is a label: what it is worth is what the hold of that sum in a sandbox is worth. -/
noncomputable def Yba.pinned : Pinned := { name := "ybulkgahm", sum := "4942b83d59bf927ba56d5d6c2803cc5075c5a0cd818a2d37cc9cfbf2e44e153a", checked := Yba.checked }
namespace Rows
def none {H : Type} : Left H := { results := [], args := [] }

/-- 'schedule.LawS8852AWhole': WHATEVER THE INPUT: true; the input reads as it did. -/
def lawS8852AWholeSpec : ChangeSpec := { name := "lawS8852AWhole", fn := fun _ => fun
  | [d1, d2] => { results := [.lit (.bool true)], args := [d1, d2] }
  | _ => none }
def lawS8852AWholeRow : OpenClaim := { program := "ybulkgahm", sum := "4942b83d59bf927ba56d5d6c2803cc5075c5a0cd818a2d37cc9cfbf2e44e153a", func := "example.com/chronogram/chronogram/pkg/schedule.LawS8852AWhole", spec := "lawS8852AWhole", apart := false }
def LawS8852AWholeSaid : Prop := lawS8852AWholeRow.holds Yba.pinned (OpenSpec.ofChange lawS8852AWholeSpec)

/-- ITS FALSE NEIGHBOUR: 'it returns false'. Refute it at one input. -/
def lawS8852AWholeWrong : ChangeSpec := { name := "lawS8852AWhole", fn := fun _ => fun
  | [d1, d2] => { results := [.lit (.bool false)], args := [d1, d2] }
  | _ => none }
def LawS8852AWholeWrongFalsely : Prop := lawS8852AWholeRow.holds Yba.pinned (OpenSpec.ofChange lawS8852AWholeWrong)

/-- 'view.LawS8852BWhole': WHATEVER THE INPUT: true; the input reads as it did. -/
def lawS8852BWholeSpec : ChangeSpec := { name := "lawS8852BWhole", fn := fun _ => fun
  | [d1, d2] => { results := [.lit (.bool true)], args := [d1, d2] }
  | _ => none }
def lawS8852BWholeRow : OpenClaim := { program := "ybulkgahm", sum := "4942b83d59bf927ba56d5d6c2803cc5075c5a0cd818a2d37cc9cfbf2e44e153a", func := "example.com/chronogram/chronogram/pkg/view.LawS8852BWhole", spec := "lawS8852BWhole", apart := false }
def LawS8852BWholeSaid : Prop := lawS8852BWholeRow.holds Yba.pinned (OpenSpec.ofChange lawS8852BWholeSpec)

/-- ITS FALSE NEIGHBOUR: 'it returns false'. Refute it at one input. -/
def lawS8852BWholeWrong : ChangeSpec := { name := "lawS8852BWhole", fn := fun _ => fun
  | [d1, d2] => { results := [.lit (.bool false)], args := [d1, d2] }
  | _ => none }
def LawS8852BWholeWrongFalsely : Prop := lawS8852BWholeRow.holds Yba.pinned (OpenSpec.ofChange lawS8852BWholeWrong)

end Rows
end Go.Proofs.Ybulkgahm
