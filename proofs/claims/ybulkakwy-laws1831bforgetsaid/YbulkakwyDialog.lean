/-
  (*sip.InviteTransaction).dialog (function 14): its contract.
-/
import Derived.Test.YbulkakwyLocks
import Derived.WalkKit
import Derived.ProofKit
import Derived.Below
import Derived.WalkSpells
import Derived.StillTailTactics
namespace Go.Proofs.Ybulkakwy
open Go.RowKit

theorem mixed : Yba.prog.follows .mixedOrders = true := by kernel_rfl

theorem lt_of_cell {w : World} {a : Addr} {v : Value} (h : w.cell? a = some v) : a.block < w.heap.size := by
  by_cases hb : a.block < w.heap.size
  · exact hb
  · simp [World.cell?, Array.getElem?_eq_none (Nat.le_of_not_lt hb)] at h

theorem cell_past {w : World} {a : Addr} {v : Value} (h : w.cell? a = some v) (o : Obj) : (w.alloc o).cell? a = some v := by
  have hb := lt_of_cell h
  rw [World.cell?_of_block (w := w) (Below.heap_alloc w o a.block hb)]; exact h

/-- The head of a region that draws its order only reads; its tail comes last, in the order of the text. -/
theorem region_tail {P : Program} {id : Nat} {Q : Exit → Act → World → Prop} {a : Act} {w : World} {l : List Oper} (n : Nat) (hm : P.follows .mixedOrders = true) (hB : Region.lexTailB .any l.toArray n = true)
    (h : wpStill P l.toArray w.drew (fun a' => wpList P l.toArray Q (l.drop n) a' w.drew) (l.take n) a) : (Code.region id l.toArray true).wp P Q a w :=
  wp_region_still_tail n hm hB h

set_option maxHeartbeats 1000000 in
set_option maxRecDepth 1000000 in
theorem dialog_any (b : Nat) (c f t : ByteArray) (w : World) (h6 : w.cell? ⟨b, 6, none⟩ = some (.string c)) (h7 : w.cell? ⟨b, 7, none⟩ = some (.string f)) (h13 : w.cell? ⟨b, 13, none⟩ = some (.string t)) :
    Calls Yba.prog 14 #[.pointer (some ⟨b, 0, none⟩)] w fun e w' => e = .returned (.agg #[.string c, .string f, .string t]) ∧ w' = (w.alloc (.cells #[.string c, .string f, .string t] 71)).drew := by
  have h6' := fun o => cell_past h6 o
  have h7' := fun o => cell_past h7 o
  have h13' := fun o => cell_past h13 o
  go_enter Yba.func14, Yba.ntmps14
  go_wp2
  refine region_tail 15 mixed (by kernel_rfl) ?_
  simp only [List.take_succ_cons, List.take_zero, List.drop_succ_cons, List.drop_zero]
  repeat still_step
  refine wpStill_nil ?_
  go_wp2
  exact bodyPost_ret (v := .agg #[.string c, .string f, .string t]) (by simp [results, Yba.results14, go_sem]) rfl ⟨rfl, rfl⟩
end Go.Proofs.Ybulkakwy
