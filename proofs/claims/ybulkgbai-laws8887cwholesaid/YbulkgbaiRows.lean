/-
  No cell of these rows narrows 'for every input' (looked for: loops, veiled, ifaces, maps, wideKeys, modest, calm, conditions, laid).
  DERIVED. THE GIVEN ROWS OF THIS SEAT. 3 by the template 'for every input the law returns true; each argument reads behind the call as it read before'; 0 by the template 'total and deterministic' (their statements: YbulkgbaiTotals.lean).
  GIVEN WITH THE SEED: the statements are not yours to turn. If you find one false, say at which input.
  Laid BY PROGRAM, IN A SANDBOX (cutbox-rows.mjs): the forced cells as the released guide's own fill.sh prints them over the translation 6acc968697290abd… (all of the seat's roots in one cut). By AI agents, Wed Nov 11 2026. No macro, syntax, notation, axiom, sorry.
-/
import Derived.Test.YbulkgbaiChecked
import GoSem.Claim
import GoSem.ClaimJoined
import GoSem.ClaimMapViews
import Derived.JoinedTies
import Derived.KernelRfl
namespace Go.Proofs.Ybulkgbai
/- THE CELL 'sum', in the pinned program and in every row, IS THE sha256 OF THE DUMP (.gsa) THAT YbulkgbaiProg.lean LOADS. Nothing in Lean hashes anything: it is a label: what it is worth is what the hold of that sum in a sandbox is worth. -/
noncomputable def Yba.pinned : Pinned := { name := "ybulkgbai", sum := "6acc968697290abdc35590a1fce35f0c51c9fc1e97c0dfc26d493bef4ce44d1b", checked := Yba.checked }
namespace Rows
def none {H : Type} : Left H := { results := [], args := [] }

/-- 'sim.LawS8887AWhole': WHATEVER THE INPUT: true; the input reads as it did. -/
def lawS8887AWholeSpec : ChangeSpec := { name := "lawS8887AWhole", fn := fun _ => fun
  | [d1, d2, d3, d4] => { results := [.lit (.bool true)], args := [d1, d2, d3, d4] }
  | _ => none }
def lawS8887AWholeRow : OpenClaim := { program := "ybulkgbai", sum := "6acc968697290abdc35590a1fce35f0c51c9fc1e97c0dfc26d493bef4ce44d1b", func := "example.com/causeway/causeway/internal/sim.LawS8887AWhole", spec := "lawS8887AWhole", plainKeys := false, apart := false }
def LawS8887AWholeSaid : Prop := lawS8887AWholeRow.holds Yba.pinned (OpenSpec.ofChange lawS8887AWholeSpec)

/-- ITS FALSE NEIGHBOUR: 'it returns false'. Refute it at one input. -/
def lawS8887AWholeWrong : ChangeSpec := { name := "lawS8887AWhole", fn := fun _ => fun
  | [d1, d2, d3, d4] => { results := [.lit (.bool false)], args := [d1, d2, d3, d4] }
  | _ => none }
def LawS8887AWholeWrongFalsely : Prop := lawS8887AWholeRow.holds Yba.pinned (OpenSpec.ofChange lawS8887AWholeWrong)

/-- 'sim.LawS8887ARanks': WHATEVER THE INPUT: true; the input reads as it did. -/
def lawS8887ARanksSpec : ChangeSpec := { name := "lawS8887ARanks", fn := fun _ => fun
  | [d1, d2] => { results := [.lit (.bool true)], args := [d1, d2] }
  | _ => none }
def lawS8887ARanksRow : OpenClaim := { program := "ybulkgbai", sum := "6acc968697290abdc35590a1fce35f0c51c9fc1e97c0dfc26d493bef4ce44d1b", func := "example.com/causeway/causeway/internal/sim.LawS8887ARanks", spec := "lawS8887ARanks", plainKeys := false, apart := false }
def LawS8887ARanksSaid : Prop := lawS8887ARanksRow.holds Yba.pinned (OpenSpec.ofChange lawS8887ARanksSpec)

/-- ITS FALSE NEIGHBOUR: 'it returns false'. Refute it at one input. -/
def lawS8887ARanksWrong : ChangeSpec := { name := "lawS8887ARanks", fn := fun _ => fun
  | [d1, d2] => { results := [.lit (.bool false)], args := [d1, d2] }
  | _ => none }
def LawS8887ARanksWrongFalsely : Prop := lawS8887ARanksRow.holds Yba.pinned (OpenSpec.ofChange lawS8887ARanksWrong)

/-- 'broadcast.LawS8887CWhole': WHATEVER THE INPUT: true; the input reads as it did. -/
def lawS8887CWholeSpec : ChangeSpec := { name := "lawS8887CWhole", fn := fun _ => fun
  | [d1, d2, d3, d4, d5, d6, d7] => { results := [.lit (.bool true)], args := [d1, d2, d3, d4, d5, d6, d7] }
  | _ => none }
def lawS8887CWholeRow : OpenClaim := { program := "ybulkgbai", sum := "6acc968697290abdc35590a1fce35f0c51c9fc1e97c0dfc26d493bef4ce44d1b", func := "example.com/causeway/causeway/internal/broadcast.LawS8887CWhole", spec := "lawS8887CWhole", recurses := true, plainKeys := false, apart := false }
def LawS8887CWholeSaid : Prop := lawS8887CWholeRow.holds Yba.pinned (OpenSpec.ofChange lawS8887CWholeSpec)

/-- ITS FALSE NEIGHBOUR: 'it returns false'. Refute it at one input. -/
def lawS8887CWholeWrong : ChangeSpec := { name := "lawS8887CWhole", fn := fun _ => fun
  | [d1, d2, d3, d4, d5, d6, d7] => { results := [.lit (.bool false)], args := [d1, d2, d3, d4, d5, d6, d7] }
  | _ => none }
def LawS8887CWholeWrongFalsely : Prop := lawS8887CWholeRow.holds Yba.pinned (OpenSpec.ofChange lawS8887CWholeWrong)

end Rows
end Go.Proofs.Ybulkgbai
