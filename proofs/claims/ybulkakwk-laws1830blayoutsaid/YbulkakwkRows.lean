/-
  No cell of these rows narrows 'for every input' (looked for: loops, veiled, ifaces, maps, wideKeys, modest, calm, conditions, laid).
  DERIVED. THE GIVEN ROWS OF THIS SEAT. 3 by the template 'for every input the law returns true; each argument reads behind the call as it read before'; 0 by the template 'total and deterministic' (their statements: YbulkakwkTotals.lean).
  GIVEN WITH THE SEED: the statements are not yours to turn. If you find one false, say at which input.
  Laid BY PROGRAM, IN A SANDBOX (cutbox-rows.mjs): the forced cells as the released guide's own fill.sh prints them over the translation 360b06d7341dbc7f… (all of the seat's roots in one cut). By AI agents, Wed Nov 11 2026. No macro, syntax, notation, axiom, sorry.
-/
import Derived.Test.YbulkakwkChecked
import GoSem.Claim
import GoSem.ClaimJoined
import GoSem.ClaimMapViews
import Derived.JoinedTies
import Derived.KernelRfl
namespace Go.Proofs.Ybulkakwk
/- THE CELL 'sum', in the pinned program and in every row, IS THE sha256 OF THE DUMP (.gsa) THAT YbulkakwkProg.lean LOADS. Nothing in Lean hashes anything: it is a label: what it is worth is what the hold of that sum in a sandbox is worth. -/
noncomputable def Yba.pinned : Pinned := { name := "ybulkakwk", sum := "360b06d7341dbc7feb8e9f97a39675ce3b8cde71f838d93f039a34c26d363819", checked := Yba.checked }
namespace Rows
def none {H : Type} : Left H := { results := [], args := [] }

/-- 'replay.LawS1830BLayout': WHATEVER THE INPUT: true; the input reads as it did. -/
def lawS1830BLayoutSpec : ChangeSpec := { name := "lawS1830BLayout", fn := fun _ => fun
  | [d1, d2, d3, d4, d5, d6] => { results := [.lit (.bool true)], args := [d1, d2, d3, d4, d5, d6] }
  | _ => none }
def lawS1830BLayoutRow : OpenClaim := { program := "ybulkakwk", sum := "360b06d7341dbc7feb8e9f97a39675ce3b8cde71f838d93f039a34c26d363819", func := "example.com/ebbtide/ebbtide/internal/replay.LawS1830BLayout", spec := "lawS1830BLayout", apart := false }
def LawS1830BLayoutSaid : Prop := lawS1830BLayoutRow.holds Yba.pinned (OpenSpec.ofChange lawS1830BLayoutSpec)

/-- ITS FALSE NEIGHBOUR: 'it returns false'. Refute it at one input. -/
def lawS1830BLayoutWrong : ChangeSpec := { name := "lawS1830BLayout", fn := fun _ => fun
  | [d1, d2, d3, d4, d5, d6] => { results := [.lit (.bool false)], args := [d1, d2, d3, d4, d5, d6] }
  | _ => none }
def LawS1830BLayoutWrongFalsely : Prop := lawS1830BLayoutRow.holds Yba.pinned (OpenSpec.ofChange lawS1830BLayoutWrong)

/-- 'reserve.LawS1830CModel': WHATEVER THE INPUT: true; the input reads as it did. -/
def lawS1830CModelSpec : ChangeSpec := { name := "lawS1830CModel", fn := fun _ => fun
  | [d1, d2] => { results := [.lit (.bool true)], args := [d1, d2] }
  | _ => none }
def lawS1830CModelRow : OpenClaim := { program := "ybulkakwk", sum := "360b06d7341dbc7feb8e9f97a39675ce3b8cde71f838d93f039a34c26d363819", func := "example.com/ebbtide/ebbtide/internal/reserve.LawS1830CModel", spec := "lawS1830CModel", apart := false }
def LawS1830CModelSaid : Prop := lawS1830CModelRow.holds Yba.pinned (OpenSpec.ofChange lawS1830CModelSpec)

/-- ITS FALSE NEIGHBOUR: 'it returns false'. Refute it at one input. -/
def lawS1830CModelWrong : ChangeSpec := { name := "lawS1830CModel", fn := fun _ => fun
  | [d1, d2] => { results := [.lit (.bool false)], args := [d1, d2] }
  | _ => none }
def LawS1830CModelWrongFalsely : Prop := lawS1830CModelRow.holds Yba.pinned (OpenSpec.ofChange lawS1830CModelWrong)

/-- 'reserve.LawS1830CSymmetric': WHATEVER THE INPUT: true; the input reads as it did. -/
def lawS1830CSymmetricSpec : ChangeSpec := { name := "lawS1830CSymmetric", fn := fun _ => fun
  | [d1, d2] => { results := [.lit (.bool true)], args := [d1, d2] }
  | _ => none }
def lawS1830CSymmetricRow : OpenClaim := { program := "ybulkakwk", sum := "360b06d7341dbc7feb8e9f97a39675ce3b8cde71f838d93f039a34c26d363819", func := "example.com/ebbtide/ebbtide/internal/reserve.LawS1830CSymmetric", spec := "lawS1830CSymmetric", apart := false }
def LawS1830CSymmetricSaid : Prop := lawS1830CSymmetricRow.holds Yba.pinned (OpenSpec.ofChange lawS1830CSymmetricSpec)

/-- ITS FALSE NEIGHBOUR: 'it returns false'. Refute it at one input. -/
def lawS1830CSymmetricWrong : ChangeSpec := { name := "lawS1830CSymmetric", fn := fun _ => fun
  | [d1, d2] => { results := [.lit (.bool false)], args := [d1, d2] }
  | _ => none }
def LawS1830CSymmetricWrongFalsely : Prop := lawS1830CSymmetricRow.holds Yba.pinned (OpenSpec.ofChange lawS1830CSymmetricWrong)

end Rows
end Go.Proofs.Ybulkakwk
