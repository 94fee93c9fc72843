/-
  No cell of these rows narrows 'for every input' (looked for: loops, veiled, ifaces, maps, wideKeys, modest, calm, conditions, laid).
  DERIVED. THE GIVEN ROWS OF THIS SEAT. 1 by the template 'for every input the law returns true; each argument reads behind the call as it read before'; 0 by the template 'total and deterministic' (their statements: YbulkgaioTotals.lean).
  GIVEN WITH THE SEED: the statements are not yours to turn. If you find one false, say at which input.
  Laid BY PROGRAM, IN A SANDBOX (cutbox-rows.mjs): the forced cells as the released guide's own fill.sh prints them over the translation a5fe7886688e1d50… (all of the seat's roots in one cut). By AI agents, Wed Nov 11 2026. No macro, syntax, notation, axiom, sorry.
-/
import Derived.Test.YbulkgaioChecked
import GoSem.Claim
import GoSem.ClaimJoined
import GoSem.ClaimMapViews
import Derived.JoinedTies
import Derived.KernelRfl
namespace Go.Proofs.Ybulkgaio
/- THE CELL 'sum', in the pinned program and in every row, IS THE sha256 OF THE DUMP (.gsa) THAT YbulkgaioProg.lean LOADS. Nothing in Lean hashes anything: it is a label: what it is worth is what the hold of that sum in a sandbox is worth. -/
noncomputable def Yba.pinned : Pinned := { name := "ybulkgaio", sum := "a5fe7886688e1d50ecae272a22dcb17d3e1b37ef4185bd79e61a7697fec04a40", checked := Yba.checked }
namespace Rows
def none {H : Type} : Left H := { results := [], args := [] }

/-- 'registry.LawS8854CWhole': WHATEVER THE INPUT: true; the input reads as it did. -/
def lawS8854CWholeSpec : ChangeSpec := { name := "lawS8854CWhole", fn := fun _ => fun
  | [d1, d2, d3, d4, d5, d6] => { results := [.lit (.bool true)], args := [d1, d2, d3, d4, d5, d6] }
  | _ => none }
def lawS8854CWholeRow : OpenClaim := { program := "ybulkgaio", sum := "a5fe7886688e1d50ecae272a22dcb17d3e1b37ef4185bd79e61a7697fec04a40", func := "example.com/lengthwise/lengthwise/internal/registry.LawS8854CWhole", spec := "lawS8854CWhole", apart := false }
def LawS8854CWholeSaid : Prop := lawS8854CWholeRow.holds Yba.pinned (OpenSpec.ofChange lawS8854CWholeSpec)

/-- ITS FALSE NEIGHBOUR: 'it returns false'. Refute it at one input. -/
def lawS8854CWholeWrong : ChangeSpec := { name := "lawS8854CWhole", fn := fun _ => fun
  | [d1, d2, d3, d4, d5, d6] => { results := [.lit (.bool false)], args := [d1, d2, d3, d4, d5, d6] }
  | _ => none }
def LawS8854CWholeWrongFalsely : Prop := lawS8854CWholeRow.holds Yba.pinned (OpenSpec.ofChange lawS8854CWholeWrong)

end Rows
end Go.Proofs.Ybulkgaio
