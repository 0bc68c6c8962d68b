/-
  No cell of these rows narrows 'for every input' (looked for: loops, veiled, ifaces, maps, wideKeys, modest, calm, conditions, laid).
  DERIVED. THE GIVEN ROWS OF THIS SEAT. 2 by the template 'for every input the law returns true; each argument reads behind the call as it read before'; 0 by the template 'total and deterministic' (their statements: YbulkalheTotals.lean).
  GIVEN WITH THE SEED: the statements are not yours to turn. If you find one false, say at which input.
  Laid BY PROGRAM, IN A SANDBOX (cutbox-rows.mjs): the forced cells as the released guide's own fill.sh prints them over the translation 7572ce4608354190… (all of the seat's roots in one cut). By AI agents, Wed Nov 11 2026. No macro, syntax, notation, axiom, sorry.
-/
import Derived.Test.YbulkalheChecked
import GoSem.Claim
import GoSem.ClaimJoined
import GoSem.ClaimMapViews
import Derived.JoinedTies
import Derived.KernelRfl
namespace Go.Proofs.Ybulkalhe
/- THE CELL 'sum', in the pinned program and in every row, IS THE sha256 OF THE DUMP (.gsa) THAT YbulkalheProg.lean LOADS. Nothing in Lean hashes anything: it is a label: what it is worth is what the hold of that sum in a sandbox is worth. -/
noncomputable def Yba.pinned : Pinned := { name := "ybulkalhe", sum := "7572ce4608354190cc817a1185d934f35ba7c0cc95231da7ad783d712c2baa77", checked := Yba.checked }
namespace Rows
def none {H : Type} : Left H := { results := [], args := [] }

/-- 'layout.LawS1850AModel': WHATEVER THE INPUT: true; the input reads as it did. -/
def lawS1850AModelSpec : ChangeSpec := { name := "lawS1850AModel", fn := fun _ => fun
  | [d] => { results := [.lit (.bool true)], args := [d] }
  | _ => none }
def lawS1850AModelRow : OpenClaim := { program := "ybulkalhe", sum := "7572ce4608354190cc817a1185d934f35ba7c0cc95231da7ad783d712c2baa77", func := "example.com/scopeledger/scopeledger/internal/layout.LawS1850AModel", spec := "lawS1850AModel", apart := false }
def LawS1850AModelSaid : Prop := lawS1850AModelRow.holds Yba.pinned (OpenSpec.ofChange lawS1850AModelSpec)

/-- ITS FALSE NEIGHBOUR: 'it returns false'. Refute it at one input. -/
def lawS1850AModelWrong : ChangeSpec := { name := "lawS1850AModel", fn := fun _ => fun
  | [d] => { results := [.lit (.bool false)], args := [d] }
  | _ => none }
def LawS1850AModelWrongFalsely : Prop := lawS1850AModelRow.holds Yba.pinned (OpenSpec.ofChange lawS1850AModelWrong)

/-- 'layout.LawS1850ARebuild': WHATEVER THE INPUT: true; the input reads as it did. -/
def lawS1850ARebuildSpec : ChangeSpec := { name := "lawS1850ARebuild", fn := fun _ => fun
  | [d] => { results := [.lit (.bool true)], args := [d] }
  | _ => none }
def lawS1850ARebuildRow : OpenClaim := { program := "ybulkalhe", sum := "7572ce4608354190cc817a1185d934f35ba7c0cc95231da7ad783d712c2baa77", func := "example.com/scopeledger/scopeledger/internal/layout.LawS1850ARebuild", spec := "lawS1850ARebuild", apart := false }
def LawS1850ARebuildSaid : Prop := lawS1850ARebuildRow.holds Yba.pinned (OpenSpec.ofChange lawS1850ARebuildSpec)

/-- ITS FALSE NEIGHBOUR: 'it returns false'. Refute it at one input. -/
def lawS1850ARebuildWrong : ChangeSpec := { name := "lawS1850ARebuild", fn := fun _ => fun
  | [d] => { results := [.lit (.bool false)], args := [d] }
  | _ => none }
def LawS1850ARebuildWrongFalsely : Prop := lawS1850ARebuildRow.holds Yba.pinned (OpenSpec.ofChange lawS1850ARebuildWrong)

end Rows
end Go.Proofs.Ybulkalhe
