/-
  (*tree[int]).leafChild (function 10): its contract.
-/
import Derived.Test.YbulkakwkSmall
namespace Go.Proofs.Ybulkakwk
open Go.RowKit
set_option linter.unusedVariables false

def kidc (v : Value) (f s lo : Int) : Array Value := #[.pointer none, v, .int .i64 f, .int .i64 0, .int .i64 s, .int .i64 lo]

/-- The child that is being made (block B + 1), the result's place (block B); nothing old has turned. -/
structure Kid (w wr : World) (v : Value) (f s lo : Int) : Prop where
  blk : wr.heap[w.heap.size + 1]? = some (.cells (kidc v f s lo) 28 (0, 0))
  res : wr.heap[w.heap.size]? = some (.cells (kidc (.slice none 0 0) 0 0 0) 28 (0, 0))
  bel : Below w.heap.size w wr

section
variable {w wr : World} {v : Value} {f s lo : Int}
theorem Kid.size (h : Kid w wr v f s lo) : w.heap.size + 2 ≤ wr.heap.size := by
  have := (Array.getElem?_eq_some_iff.1 h.blk).1
  omega
theorem Kid.alloc (h : Kid w wr v f s lo) (o : Obj) : Kid w (wr.alloc o) v f s lo := by
  have hs := h.size
  exact ⟨by rw [Below.heap_alloc _ _ _ (by omega)]; exact h.blk, by rw [Below.heap_alloc _ _ _ (by omega)]; exact h.res, h.bel.alloc (by omega) o⟩
theorem Kid.set (h : Kid w wr v f s lo) (j : Nat) (u : Value) {f' s' lo' : Int} (e : (kidc v f s lo).setIfInBounds j u = kidc v f' s' lo') : Kid w (wr.setCell ⟨w.heap.size + 1, j, none⟩ u) v f' s' lo' := by
  refine ⟨by rw [← e]; exact heap_setCell_same wr _ j _ 28 u h.blk, ?_, h.bel.setCell (by simp) _⟩
  rw [heap_setCell_other wr ⟨w.heap.size + 1, j, none⟩ w.heap.size u (by simp)]
  exact h.res
theorem Kid.setF (h : Kid w wr v f s lo) (f' : Int) : Kid w (wr.setCell ⟨w.heap.size + 1, 2, none⟩ (.int .i64 f')) v f' s lo := h.set 2 _ rfl
theorem Kid.setZ (h : Kid w wr v f s lo) : Kid w (wr.setCell ⟨w.heap.size + 1, 3, none⟩ (.int .i64 0)) v f s lo := h.set 3 _ rfl
theorem Kid.setS (h : Kid w wr v f s lo) (s' : Int) : Kid w (wr.setCell ⟨w.heap.size + 1, 4, none⟩ (.int .i64 s')) v f s' lo := h.set 4 _ rfl
theorem Kid.setL (h : Kid w wr v f s lo) (l' : Int) : Kid w (wr.setCell ⟨w.heap.size + 1, 5, none⟩ (.int .i64 l')) v f s l' := h.set 5 _ rfl
theorem Kid.cast (h : Kid w wr v f s lo) {f' s' lo' : Int} (e1 : f = f') (e2 : s = s') (e3 : lo = lo') : Kid w wr v f' s' lo' := by subst e1; subst e2; subst e3; exact h
theorem Kid.cell (h : Kid w wr v f s lo) (j : Nat) {u : Value} (e : (kidc v f s lo)[j]? = some u) : wr.cell? ⟨w.heap.size + 1, j, none⟩ = some u := by
  rw [cell_of_row wr _ j _ 28 (0, 0) h.blk]; exact e
theorem Kid.fr (h : Kid w wr v f s lo) (j : Nat) : wr.frozen? ⟨w.heap.size + 1, j, none⟩ = false := frozen_of_row wr _ j _ 28 h.blk
end

set_option maxHeartbeats 1000000 in
set_option maxRecDepth 1000000 in
theorem leafChild_any (W : List Int) (lst : Bool) (T g base a m cap : Nat) (w : World) (hm : 0 < m) (hm2 : m ≤ 1000) (ha : a + m ≤ W.length) (haW : W.length ≤ 1000000) (hT : w.cell? ⟨T, 8, none⟩ = some (.bool lst)) (hTb : T < w.heap.size)
    (hown : w.ownsRow base 37 4 (.slice (some ⟨g, 0, none⟩) m cap) m (ecells W a m)) :
    Calls Yba.prog 10 #[.pointer (some ⟨T, 0, none⟩), .slice (some ⟨g, 0, none⟩) m cap] w fun e w' =>
      e = .returned (.agg #[.pointer none, .slice (some ⟨g, 0, none⟩) m cap, .int .i64 a, .int .i64 0, .int .i64 (sumL (wsl W a m)), .int .i64 (lowV lst (wsl W a m))]) ∧ w.grownBy w' none := by
  have hg := (hown.lt g rfl).2
  go_enter Yba.func10, Yba.ntmps10
  go_wp2
  go_loopw [12] (fun i wr => ∃ k : Nat, i = .int .i64 k ∧ k ≤ m ∧ Kid w wr (.slice (some ⟨g, 0, none⟩) m cap) (if k = 0 then 0 else (a : Int)) (sumL (wsl W a k)) (lowV lst (wsl W a k)))
    (fun i _ => m - (intOf i).toNat)
  case atStart =>
    refine ⟨0, rfl, by omega, ?_, ?_, ((Below.refl _ _).alloc (Nat.le_refl _) _).alloc (by simp) _⟩
    · have := heap_alloc_new (w.alloc (.cells (kidc (.slice none 0 0) 0 0 0) 28)) (.cells (kidc (.slice (some ⟨g, 0, none⟩) m cap) 0 0 0) 28)
      simp only [World.size_alloc] at this
      cases lst <;> exact this
    · rw [Below.heap_alloc _ _ _ (by simp)]
      exact heap_alloc_new w _
  case round =>
    obtain ⟨k, rfl, hk, hK⟩ := hrel
    by_cases hlt : k < m
    · have hx := hown.cellAt
      have q : ∀ r, r < 4 → wr.cell? ⟨g, k * 4 + r, none⟩ = (entc W (a + k))[r]? := fun r hr => by
        rw [hK.bel.cell (p := ⟨g, k * 4 + r, none⟩) hg, hown.cellAt (k * 4 + r) (by omega), ecells_get W a m k r hlt hr]
      have p0 : wr.cell? ⟨g, k * 4, none⟩ = some (.int .i64 (a + k : Nat)) := q 0 (by omega)
      have p1 : wr.cell? ⟨g, k * 4 + 1, none⟩ = some (.int .i64 0) := q 1 (by omega)
      have p2 : wr.cell? ⟨g, k * 4 + 2, none⟩ = some (.int .i64 (a + k : Nat)) := q 2 (by omega)
      have p3 : wr.cell? ⟨g, k * 4 + 3, none⟩ = some (.int .i64 (W.getD (a + k) 0)) := q 3 (by omega)
      have ts : wr.cell? ⟨T, 8, none⟩ = some (.bool lst) := by rw [hK.bel.cell (p := ⟨T, 8, none⟩) hTb]; exact hT
      have hws := wsl_succ W a k (by omega)
      have hT' : ∀ o, (wr.alloc o).cell? ⟨T, 8, none⟩ = some (.bool lst) := fun o => by
        rw [World.cell?_of_block (w := wr) (Below.heap_alloc wr o T (by have := hK.size; omega))]; exact ts
      have hKid : Hid (Kid w wr (.slice (some ⟨g, 0, none⟩) m cap) (if k = 0 then 0 else (a : Int)) (sumL (wsl W a k)) (lowV lst (wsl W a k))) := hK
      have hsz := hK.size
      have HW : Hid (wsl W a (k + 1) = wsl W a k ++ [W.getD (a + k) 0]) := hws
      have fr : ∀ (o : Obj) (j : Nat), (wr.alloc o).frozen? ⟨w.heap.size + 1, j, none⟩ = false := fun o j => (hK.alloc o).fr j
      have c4 : ∀ o : Obj, (wr.alloc o).cell? ⟨w.heap.size + 1, 4, none⟩ = some (.int .i64 (sumL (wsl W a k))) := fun o => (hK.alloc o).cell 4 rfl
      clear hws
      clear q hx
      generalize W.getD (a + k) 0 = x at *
      generalize hS : sumL (wsl W a k) = S at *
      have HS : Hid (sumL (wsl W a k) = S) := hS
      clear hS
      by_cases hk0 : k = 0
      · subst hk0
        cases lst with
        | true =>
          have c2 : ∀ o : Obj, (wr.alloc o).cell? ⟨w.heap.size + 1, 2, none⟩ = some (.int .i64 0) := fun o => (hK.alloc o).cell 2 rfl
          have c3 : ∀ o : Obj, (wr.alloc o).cell? ⟨w.heap.size + 1, 3, none⟩ = some (.int .i64 0) := fun o => (hK.alloc o).cell 3 rfl
          have c5 : ∀ o : Obj, (wr.alloc o).cell? ⟨w.heap.size + 1, 5, none⟩ = some (.int .i64 (lowL (wsl W a 0))) := fun o => (hK.alloc o).cell 5 rfl
          clear hK hown hT ts
          go_wp2_with fail
          go_roundw
          case rel => exact ⟨1, by go_num, by omega, (((((hKid.out.alloc _).setF _).setZ).setS _).setL _).cast rfl (by show _ = sumL (wsl W a (0 + 1)); rw [HW.out, sumL_snoc, HS.out]) (by show x = lowL (wsl W a (0 + 1)); rw [HW.out]; simp [wsl, lowL_one])⟩
          case measure => simp [intOf]; omega
        | false =>
          have c2 : ∀ o : Obj, (wr.alloc o).cell? ⟨w.heap.size + 1, 2, none⟩ = some (.int .i64 0) := fun o => (hK.alloc o).cell 2 rfl
          have c3 : ∀ o : Obj, (wr.alloc o).cell? ⟨w.heap.size + 1, 3, none⟩ = some (.int .i64 0) := fun o => (hK.alloc o).cell 3 rfl
          clear hK hown hT ts
          go_wp2_with fail
          go_roundw
          case rel => exact ⟨1, by go_num, by omega, ((((hKid.out.alloc _).setF _).setZ).setS _).cast rfl (by rw [HW.out, sumL_snoc, HS.out]) rfl⟩
          case measure => simp [intOf]; omega
      · have hk1 : ((k : Int) == 0) = false := by simp; omega
        cases lst with
        | false =>
          clear hK hown hT ts
          go_wp2_with fail
          go_roundw
          case rel => exact ⟨k + 1, by go_num, by omega, ((hKid.out.alloc _).setS _).cast (by rw [if_neg hk0, if_neg (by omega)]) (by rw [HW.out, sumL_snoc, HS.out]) rfl⟩
          case measure => simp [intOf]; omega
        | true =>
          have hne : wsl W a k ≠ [] := fun e => by
            have := congrArg List.length e
            simp [wsl] at this
            omega
          have hls := lowL_snoc (wsl W a k) x hne
          have HL : Hid (lowL (wsl W a k ++ [x]) = if x < lowL (wsl W a k) then x else lowL (wsl W a k)) := hls
          clear hls hne
          have c5 : ∀ o : Obj, (wr.alloc o).cell? ⟨w.heap.size + 1, 5, none⟩ = some (.int .i64 (lowL (wsl W a k))) := fun o => (hK.alloc o).cell 5 rfl
          clear hK hown hT ts
          generalize hM : lowL (wsl W a k) = M at *
          have HM : Hid (lowL (wsl W a k) = M) := hM
          clear hM
          by_cases hxl : x < M
          · have hxx := hxl
            go_wp2_with fail
            go_roundw
            case rel => exact ⟨k + 1, by go_num, by omega, (((hKid.out.alloc _).setS _).setL _).cast (by rw [if_neg hk0, if_neg (by omega)]) (by rw [HW.out, sumL_snoc, HS.out]) (by rw [HW.out, lowV_true, HL.out, if_pos hxl])⟩
            case measure => simp [intOf]; omega
          · have hxx : M ≤ x := by omega
            go_wp2_with fail
            go_roundw
            case rel => exact ⟨k + 1, by go_num, by omega, ((hKid.out.alloc _).setS _).cast (by rw [if_neg hk0, if_neg (by omega)]) (by rw [HW.out, sumL_snoc, HS.out]) (by rw [HW.out, lowV_true, lowV_true, HL.out, if_neg hxl, HM.out])⟩
            case measure => simp [intOf]; omega
    · have hkm : k = m := by omega
      subst hkm
      have e0 : ¬ k = 0 := by omega
      rw [if_neg e0] at hK
      have k0 : wr.cell? ⟨w.heap.size + 1, 0, none⟩ = some (.pointer none) := hK.cell 0 rfl
      have k1 : wr.cell? ⟨w.heap.size + 1, 1, none⟩ = some (.slice (some ⟨g, 0, none⟩) k cap) := hK.cell 1 rfl
      have k2 : wr.cell? ⟨w.heap.size + 1, 2, none⟩ = some (.int .i64 a) := hK.cell 2 rfl
      have k3 : wr.cell? ⟨w.heap.size + 1, 3, none⟩ = some (.int .i64 0) := hK.cell 3 rfl
      have k4 : wr.cell? ⟨w.heap.size + 1, 4, none⟩ = some (.int .i64 (sumL (wsl W a k))) := hK.cell 4 rfl
      have k5 : wr.cell? ⟨w.heap.size + 1, 5, none⟩ = some (.int .i64 (lowV lst (wsl W a k))) := hK.cell 5 rfl
      have r0 : wr.cell? ⟨w.heap.size, 0, none⟩ = some (.pointer none) := by rw [cell_of_row wr _ 0 _ 28 (0, 0) hK.res]; rfl
      have r1 : wr.cell? ⟨w.heap.size, 1, none⟩ = some (.slice none 0 0) := by rw [cell_of_row wr _ 1 _ 28 (0, 0) hK.res]; rfl
      have r2 : wr.cell? ⟨w.heap.size, 2, none⟩ = some (.int .i64 0) := by rw [cell_of_row wr _ 2 _ 28 (0, 0) hK.res]; rfl
      have r3 : wr.cell? ⟨w.heap.size, 3, none⟩ = some (.int .i64 0) := by rw [cell_of_row wr _ 3 _ 28 (0, 0) hK.res]; rfl
      have r4 : wr.cell? ⟨w.heap.size, 4, none⟩ = some (.int .i64 0) := by rw [cell_of_row wr _ 4 _ 28 (0, 0) hK.res]; rfl
      have r5 : wr.cell? ⟨w.heap.size, 5, none⟩ = some (.int .i64 0) := by rw [cell_of_row wr _ 5 _ 28 (0, 0) hK.res]; rfl
      have rf : ∀ j, wr.frozen? ⟨w.heap.size, j, none⟩ = false := fun j => frozen_of_row wr _ j _ 28 hK.res
      have hB : Below w.heap.size w wr := hK.bel
      clear hK hown hT
      go_wp2_with fail
      refine bodyPost_ret (v := .agg #[.pointer none, .slice (some ⟨g, 0, none⟩) k cap, .int .i64 a, .int .i64 0, .int .i64 (sumL (wsl W a k)), .int .i64 (lowV lst (wsl W a k))]) (by simp [results, Yba.results10, go_sem, r0, r1, r2, r3, r4, r5]) rfl ⟨rfl, ?_⟩
      have hB2 := (((((hB.setCell (p := ⟨w.heap.size, 0, none⟩) (Nat.le_refl _) (.pointer none)).setCell (p := ⟨w.heap.size, 1, none⟩) (Nat.le_refl _) (.slice (some ⟨g, 0, none⟩) k cap)).setCell (p := ⟨w.heap.size, 2, none⟩) (Nat.le_refl _) (.int .i64 a)).setCell (p := ⟨w.heap.size, 3, none⟩) (Nat.le_refl _) (.int .i64 0)).setCell (p := ⟨w.heap.size, 4, none⟩) (Nat.le_refl _) (.int .i64 (sumL (wsl W a k)))).setCell (p := ⟨w.heap.size, 5, none⟩) (Nat.le_refl _) (.int .i64 (lowV lst (wsl W a k)))
      exact ⟨hB2.os, hB2.tape, hB2.output, hB2.size, fun i hi _ => hB2.block i hi⟩
end Go.Proofs.Ybulkakwk
