/-
  No cell of these rows narrows 'for every input' (looked for: loops, veiled, ifaces, maps, wideKeys, modest, calm, conditions, laid).
  DERIVED. THE GIVEN ROWS OF THIS SEAT. 3 by the template 'for every input the law returns true; each argument reads behind the call as it read before'; 0 by the template 'total and deterministic' (their statements: YbulkakwyTotals.lean).
  GIVEN WITH THE SEED: the statements are not yours to turn. If you find one false, say at which input.
  Laid BY PROGRAM, IN A SANDBOX (cutbox-rows.mjs): the forced cells as the released guide's own fill.sh prints them over the translation 9d566197834b5e14… (all of the seat's roots in one cut). By AI agents, Wed Nov 11 2026. No macro, syntax, notation, axiom, sorry.
-/
import Derived.Test.YbulkakwyChecked
import GoSem.Claim
import GoSem.ClaimJoined
import GoSem.ClaimMapViews
import Derived.JoinedTies
import Derived.KernelRfl
namespace Go.Proofs.Ybulkakwy
/- THE CELL 'sum', in the pinned program and in every row, IS THE sha256 OF THE DUMP (.gsa) THAT YbulkakwyProg.lean LOADS. Nothing in Lean hashes anything: it is a label: what it is worth is what the hold of that sum in a sandbox is worth. -/
noncomputable def Yba.pinned : Pinned := { name := "ybulkakwy", sum := "9d566197834b5e14c7a7ef40b9fd6b6a63c9b43912a04e95558db65d196d98c4", checked := Yba.checked }
namespace Rows
def none {H : Type} : Left H := { results := [], args := [] }

/-- 'sip.LawS1831BForget': WHATEVER THE INPUT: true; the input reads as it did. -/
def lawS1831BForgetSpec : ChangeSpec := { name := "lawS1831BForget", fn := fun _ => fun
  | [d1, d2, d3, d4, d5, d6] => { results := [.lit (.bool true)], args := [d1, d2, d3, d4, d5, d6] }
  | _ => none }
def lawS1831BForgetRow : OpenClaim := { program := "ybulkakwy", sum := "9d566197834b5e14c7a7ef40b9fd6b6a63c9b43912a04e95558db65d196d98c4", func := "example.com/wirecenter/wirecenter/pkg/sip.LawS1831BForget", spec := "lawS1831BForget", inPlace := ["(*internal/sync.Mutex).Lock", "internal/race.Disable", "sync/atomic.CompareAndSwapInt32", "internal/race.Enable", "internal/race.Acquire", "(*internal/sync.Mutex).lockSlow", "internal/sync.runtime_canSpin", "internal/sync.runtime_doSpin", "internal/sync.throw", "internal/sync.runtime_nanotime", "internal/sync.runtime_SemacquireMutex", "sync/atomic.AddInt32", "(*internal/sync.Mutex).Unlock", "internal/race.ReleaseMerge", "(*internal/sync.Mutex).unlockSlow", "internal/sync.fatal", "internal/sync.runtime_Semrelease"], plainKeys := false, apart := false }
def LawS1831BForgetSaid : Prop := lawS1831BForgetRow.holds Yba.pinned (OpenSpec.ofChange lawS1831BForgetSpec)

/-- ITS FALSE NEIGHBOUR: 'it returns false'. Refute it at one input. -/
def lawS1831BForgetWrong : ChangeSpec := { name := "lawS1831BForget", fn := fun _ => fun
  | [d1, d2, d3, d4, d5, d6] => { results := [.lit (.bool false)], args := [d1, d2, d3, d4, d5, d6] }
  | _ => none }
def LawS1831BForgetWrongFalsely : Prop := lawS1831BForgetRow.holds Yba.pinned (OpenSpec.ofChange lawS1831BForgetWrong)

/-- 'fgd.LawS1831CExact': WHATEVER THE INPUT: true; the input reads as it did. -/
def lawS1831CExactSpec : ChangeSpec := { name := "lawS1831CExact", fn := fun _ => fun
  | [d1, d2, d3] => { results := [.lit (.bool true)], args := [d1, d2, d3] }
  | _ => none }
def lawS1831CExactRow : OpenClaim := { program := "ybulkakwy", sum := "9d566197834b5e14c7a7ef40b9fd6b6a63c9b43912a04e95558db65d196d98c4", func := "example.com/wirecenter/wirecenter/pkg/fgd.LawS1831CExact", spec := "lawS1831CExact", plainKeys := false, apart := false }
def LawS1831CExactSaid : Prop := lawS1831CExactRow.holds Yba.pinned (OpenSpec.ofChange lawS1831CExactSpec)

/-- ITS FALSE NEIGHBOUR: 'it returns false'. Refute it at one input. -/
def lawS1831CExactWrong : ChangeSpec := { name := "lawS1831CExact", fn := fun _ => fun
  | [d1, d2, d3] => { results := [.lit (.bool false)], args := [d1, d2, d3] }
  | _ => none }
def LawS1831CExactWrongFalsely : Prop := lawS1831CExactRow.holds Yba.pinned (OpenSpec.ofChange lawS1831CExactWrong)

/-- 'fgd.LawS1831CSplit': WHATEVER THE INPUT: true; the input reads as it did. -/
def lawS1831CSplitSpec : ChangeSpec := { name := "lawS1831CSplit", fn := fun _ => fun
  | [d1, d2] => { results := [.lit (.bool true)], args := [d1, d2] }
  | _ => none }
def lawS1831CSplitRow : OpenClaim := { program := "ybulkakwy", sum := "9d566197834b5e14c7a7ef40b9fd6b6a63c9b43912a04e95558db65d196d98c4", func := "example.com/wirecenter/wirecenter/pkg/fgd.LawS1831CSplit", spec := "lawS1831CSplit", plainKeys := false, apart := false }
def LawS1831CSplitSaid : Prop := lawS1831CSplitRow.holds Yba.pinned (OpenSpec.ofChange lawS1831CSplitSpec)

/-- ITS FALSE NEIGHBOUR: 'it returns false'. Refute it at one input. -/
def lawS1831CSplitWrong : ChangeSpec := { name := "lawS1831CSplit", fn := fun _ => fun
  | [d1, d2] => { results := [.lit (.bool false)], args := [d1, d2] }
  | _ => none }
def LawS1831CSplitWrongFalsely : Prop := lawS1831CSplitRow.holds Yba.pinned (OpenSpec.ofChange lawS1831CSplitWrong)

end Rows
end Go.Proofs.Ybulkakwy
