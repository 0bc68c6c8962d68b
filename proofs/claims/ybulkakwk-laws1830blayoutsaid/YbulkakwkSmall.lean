/-
  replay.zzs1830bok (function 7) and (*tree[int]).newLeaf (function 11): their contracts.
-/
import Derived.Test.YbulkakwkRows
import Derived.Test.YbulkakwkPlain
import Derived.ProofKit
import Derived.Below
import Derived.WalkSpells
import Derived.Deep.QuietTactic
import Derived.BigQuiet
namespace Go.Proofs.Ybulkakwk
open Go.RowKit
set_option linter.unusedVariables false

theorem Yba.info37 : (Yba.prog.info? 37).map (fun i => (i.zero, i.size, i.bytes)) = some (some (.agg #[.int .i64 0, .int .i64 0, .int .i64 0, .int .i64 0]), 4, 32) := by kernel_rfl
theorem Yba.info28 : (Yba.prog.info? 28).map (fun i => (i.zero, i.size, i.bytes)) = some (some (.agg #[.pointer none, .slice none 0 0, .int .i64 0, .int .i64 0, .int .i64 0, .int .i64 0]), 6, 64) := by kernel_rfl
theorem Yba.info24 : (Yba.prog.info? 24).map (fun i => (i.zero, i.size, i.bytes)) = some (some (.slice none 0 0), 1, 24) := by kernel_rfl
theorem Yba.info2 : (Yba.prog.info? 2).map (fun i => (i.zero, i.size, i.bytes)) = some (some (.int .i64 0), 1, 8) := by kernel_rfl

theorem grown_drewN (W : World) (k : Nat) (r : Option Nat) : W.grownBy (W.drewN k) r := ⟨rfl, rfl, rfl, Nat.le_refl _, fun _ _ _ => rfl⟩
theorem grown_trans {a b c : World} (h : a.grownBy b none) (k : b.grownBy c none) : a.grownBy c none :=
  ⟨k.os.trans h.os, k.tape.trans h.tape, k.output.trans h.output, Nat.le_trans h.size k.size, fun i hi hn => by rw [k.block i (Nat.lt_of_lt_of_le hi h.size) hn, h.block i hi hn]⟩

set_option maxHeartbeats 1000000 in
set_option maxRecDepth 1000000 in
theorem bok_any (W : List Int) (g base cap N i : Nat) (w : World) (hi : i < N)
    (hown : w.ownsRow base 2 1 (.slice (some ⟨g, 0, none⟩) N cap) N (W.map (Value.int .i64))) :
    Calls Yba.prog 7 #[.agg #[.int .i64 i, .int .i64 0, .int .i64 i, .int .i64 (W.getD i 0)], .int .i64 i, .slice (some ⟨g, 0, none⟩) N cap] w fun e w' => e = .returned (.bool true) ∧ w.grownBy w' none := by
  have hl : W.length = N := by simpa using hown.1
  have hg := (hown.lt g rfl).2
  have hcell := hown.cellAt i (by omega)
  have e1 : (W.map (Value.int .i64))[i]? = some (.int .i64 (W.getD i 0)) := by simp [hl, hi]
  rw [e1] at hcell
  have hcell' : ∀ o, (w.alloc o).cell? ⟨g, i, none⟩ = some (.int .i64 (W.getD i 0)) := fun o => by
    rw [World.cell?_of_block (w := w) (Below.heap_alloc w o g hg)]; exact hcell
  generalize W.getD i 0 = x at *
  clear hown hcell e1 hl
  have b1 : (0 : Int) ≤ (i : Int) := by omega
  have b2 : (i : Int) < (N : Int) := by omega
  go_enter Yba.func7, Yba.ntmps7
  go_wp2
  go_quiet (fail)
  go_wp2
  go_ret
  refine ⟨rfl, ?_⟩
  exact grown_trans (World.grownBy_alloc _ _ _) (grown_drewN _ _ _)

set_option maxHeartbeats 1000000 in
set_option maxRecDepth 1000000 in
theorem newLeaf_spare (T R n scap : Nat) (v : Value) (w : World) (h11 : w.cell? ⟨T, 11, none⟩ = some (.slice (some ⟨R, 0, none⟩) (n + 1) scap)) (hf : w.frozen? ⟨T, 11, none⟩ = false) (hv : w.cell? ⟨R, n, none⟩ = some v) (hs : n + 1 ≤ scap) (hs2 : n ≤ 1000000) (hag : v.oneCell' = true) :
    Calls Yba.prog 11 #[.pointer (some ⟨T, 0, none⟩)] w fun e w' => e = .returned v ∧ w' = w.setCell ⟨T, 11, none⟩ (.slice (some ⟨R, 0, none⟩) n scap) := by
  have b1 : (0 : Int) ≤ (n : Int) := by omega
  have e1 : ((n : Int) + 1 - 1) = (n : Int) := by omega
  go_enter Yba.func11, Yba.ntmps11
  go_wp2
  go_ret
  exact ⟨rfl, rfl⟩

set_option maxHeartbeats 1000000 in
set_option maxRecDepth 1000000 in
theorem newLeaf_new (T scap : Nat) (sa : Option Addr) (w : World) (h11 : w.cell? ⟨T, 11, none⟩ = some (.slice sa 0 scap)) (base : Nat) (hb : base ≤ w.heap.size) :
    Calls Yba.prog 11 #[.pointer (some ⟨T, 0, none⟩)] w fun e w' => e = .returned (.slice (some ⟨w.heap.size, 0, none⟩) 0 32) ∧ w'.ownsRow base 37 4 (.slice (some ⟨w.heap.size, 0, none⟩) 0 32) 0 [] ∧ w.grownBy w' none := by
  obtain ⟨i0, hi, hz0, hz1, hz2⟩ := info_parts Yba.info37
  go_enter Yba.func11, Yba.ntmps11
  go_wp2_with (at_make; refine wpList_make_own _ rfl _ _ 24 rfl base 37 i0 _ 4 Yba.underlying24 hi hz0 hz1 _ _ _ 32 rfl rfl (by rfl) ?b2 ?b3 hb ?_)
  case b2 => rw [hz2]; omega
  case b3 => unfold maxLen; omega
  intro w0 hown0 hgrow0
  go_wp2
  go_ret
  exact ⟨rfl, hown0, hgrow0⟩

end Go.Proofs.Ybulkakwk
