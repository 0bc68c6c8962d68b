/-
  What the law's own loops hold of memory while they make the tree's spare leaves, the leaf, the entries and the weights.
-/
import Derived.Test.YbulkakwkLay
namespace Go.Proofs.Ybulkakwk
open Go.RowKit
set_option linter.unusedVariables false

/-- The tree and its spare leaves. -/
structure Sp (B T : Nat) (lst : Bool) (w wr : World) (S : List Nat) (sa : Option Addr) (scap : Nat) : Prop where
  tb : wr.heap[T]? = some (.cells (treec lst (.slice sa S.length scap)) 35 (0, 0))
  sp : wr.ownsRow B 24 1 (.slice sa S.length scap) S.length (S.map leafV)
  sl : ∀ b ∈ S, wr.ownsRow B 37 4 (leafV b) 0 []
  nd : S.Nodup
  lo : B ≤ T
  sz : B ≤ wr.heap.size
  bel : Below B w wr

section
variable {B T : Nat} {lst : Bool} {w wr w1 : World} {S : List Nat} {sa : Option Addr} {scap : Nat}

theorem Sp.tlt (h : Sp B T lst w wr S sa scap) : T < wr.heap.size := (Array.getElem?_eq_some_iff.1 h.tb).1
theorem Sp.slt (h : Sp B T lst w wr S sa scap) {b : Nat} (hb : b ∈ S) : b < wr.heap.size := ((h.sl b hb).lt b rfl).2

/-- Writes into nothing of these. -/
theorem Sp.other (h : Sp B T lst w wr S sa scap) {row : Option Nat} (hg : wr.grownBy w1 row) (hr : ∀ r, row = some r → B ≤ r ∧ ∃ cur t, wr.heap[r]? = some (.cells cur t (0, 0)) ∧ t ≠ 35 ∧ t ≠ 24 ∧ (t = 37 → r ∉ S)) : Sp B T lst w w1 S sa scap := by
  refine ⟨?_, own_keep h.sp hg ?_, fun b hb => own_keep (h.sl b hb) hg ?_, h.nd, h.lo, Nat.le_trans h.sz hg.size, h.bel.grown hg h.sz (fun k hk => (hr k hk).1)⟩
  · rw [hg.block _ h.tlt (fun e => by
      obtain ⟨_, cur, t, hc, h1, _⟩ := hr T e.symm
      have h2 := h.tb
      rw [hc] at h2
      simp at h2
      exact h1 h2.2)]
    exact h.tb
  · intro k hk e
    obtain ⟨_, cur, t, hc, _, h1, _⟩ := hr k e.symm
    obtain ⟨c2, h2⟩ := own_block h.sp hk
    rw [hc] at h2
    simp at h2
    exact h1 h2.2
  · intro k hk e
    obtain ⟨_, cur, t, hc, _, _, h1⟩ := hr k e.symm
    obtain ⟨c2, h2⟩ := own_block (h.sl b hb) hk
    rw [hc] at h2
    simp at h2
    have e1 : b = k := by simpa [leafV, Value.ownBlock] using hk
    exact h1 h2.2 (e1 ▸ hb)
theorem Sp.grown (h : Sp B T lst w wr S sa scap) (hg : wr.grownBy w1 none) : Sp B T lst w w1 S sa scap := h.other hg (fun r hr => by cases hr)

/-- A new spare leaf (block b) is laid beside. -/
theorem Sp.push (h : Sp B T lst w wr S sa scap) {b : Nat} {w2 : World} {g cap : Nat} (hb : b ∉ S) (hl : wr.ownsRow B 37 4 (leafV b) 0 [])
    (ho : w1.ownsRow B 24 1 (.slice (some ⟨g, 0, none⟩) (S.length + 1) cap) (S.length + 1) (S.map leafV ++ [leafV b])) (hg : wr.grownBy w1 (Value.slice sa S.length scap).ownBlock)
    (hw : w2 = w1.setCell ⟨T, 11, none⟩ (.slice (some ⟨g, 0, none⟩) (S.length + 1) cap)) : Sp B T lst w w2 (S ++ [b]) (some ⟨g, 0, none⟩) cap := by
  have hrow : ∀ k, (Value.slice sa S.length scap).ownBlock = some k → B ≤ k ∧ ∃ cur, wr.heap[k]? = some (.cells cur 24 (0, 0)) := fun k hk => ⟨(h.sp.lt k hk).1, own_block h.sp hk⟩
  have hTw1 : w1.heap[T]? = some (.cells (treec lst (.slice sa S.length scap)) 35 (0, 0)) := by
    rw [hg.block _ h.tlt (fun e => by
      obtain ⟨_, cur, hc⟩ := hrow T e.symm
      have h2 := h.tb
      rw [hc] at h2
      simp at h2)]
    exact h.tb
  have hg2 : w1.grownBy w2 (some T) := by rw [hw]; exact ⟨rfl, rfl, rfl, by simp, fun k _ hk => heap_setCell_other w1 ⟨T, 11, none⟩ k _ (fun e => hk (by simp [e]))⟩
  have t : ∀ {base e size : Nat} {v : Value} {n : Nat} {xs : List Value}, e ≠ 35 → w1.ownsRow base e size v n xs → w2.ownsRow base e size v n xs := fun he h' => own_keep h' hg2 (fun k hk e => by
    obtain ⟨cur, hcur⟩ := own_block h' hk
    have e' : k = T := by simpa using e
    rw [e', hTw1] at hcur
    simp at hcur
    exact he hcur.2.symm)
  have t1 : ∀ {b : Nat}, wr.ownsRow B 37 4 (leafV b) 0 [] → w1.ownsRow B 37 4 (leafV b) 0 [] := fun h' => own_keep h' hg (own_type h' h.sp (by decide))
  have el : (S ++ [b]).length = S.length + 1 := by simp
  refine ⟨?_, ?_, fun x hx => ?_, ?_, h.lo, Nat.le_trans h.sz (Nat.le_trans hg.size hg2.size), ?_⟩
  · rw [hw, el]
    exact heap_setCell_same w1 T 11 _ 35 _ hTw1
  · rw [el]
    simpa using t (by decide) ho
  · simp only [List.mem_append, List.mem_singleton] at hx
    rcases hx with hx | rfl
    · exact t (by decide) (t1 (h.sl x hx))
    · exact t (by decide) (t1 hl)
  · rw [List.nodup_append]
    exact ⟨h.nd, by simp, fun a ha b' hb' e => by simp at hb'; subst hb'; subst e; exact hb ha⟩
  · have h1 : Below B w w1 := h.bel.grown hg h.sz (fun k hk => (hrow k hk).1)
    rw [hw]
    exact h1.setCell h.lo _
end

/-- With the leaf (block g, m entries) and the weights (block q of them). -/
structure Mk2 (B T : Nat) (lst : Bool) (w wr : World) (S : List Nat) (sa : Option Addr) (scap : Nat) (W : List Int) (g wg N m q : Nat) : Prop where
  sp : Sp B T lst w wr S sa scap
  cur : wr.ownsRow B 37 4 (.slice (some ⟨g, 0, none⟩) m 32) m (ecells W 0 m)
  wt : wr.ownsRow B 2 1 (.slice (some ⟨wg, 0, none⟩) q N) q ((W.take q).map (Value.int .i64))
  ne : g ∉ S
section
variable {B T : Nat} {lst : Bool} {w wr w1 : World} {S : List Nat} {sa : Option Addr} {scap g wg N m q : Nat} {W : List Int}
theorem Mk2.grown (h : Mk2 B T lst w wr S sa scap W g wg N m q) (hg : wr.grownBy w1 none) : Mk2 B T lst w w1 S sa scap W g wg N m q :=
  ⟨h.sp.grown hg, own_keep h.cur hg (fun _ _ => by simp), own_keep h.wt hg (fun _ _ => by simp), h.ne⟩
theorem Mk2.app (h : Mk2 B T lst w wr S sa scap W g wg N m q) (ho : w1.ownsRow B 37 4 (.slice (some ⟨g, 0, none⟩) (m + 1) 32) (m + 1) (ecells W 0 m ++ entc W m)) (hg : wr.grownBy w1 (some g)) : Mk2 B T lst w w1 S sa scap W g wg N (m + 1) q := by
  obtain ⟨cur, hc⟩ := own_block h.cur (k := g) rfl
  refine ⟨h.sp.other hg (fun r hr => ?_), ?_, own_keep h.wt hg (own_type h.wt h.cur (by decide)), h.ne⟩
  · cases hr
    exact ⟨(h.cur.lt g rfl).1, cur, 37, hc, by decide, by decide, fun _ => h.ne⟩
  · show w1.ownsRow B 37 4 _ (m + 1) (ecells W 0 m ++ entc W (0 + m))
    rw [Nat.zero_add]
    exact ho
theorem Mk2.want (h : Mk2 B T lst w wr S sa scap W g wg N m q) {x : Int} (hx : W[q]? = some x) (ho : w1.ownsRow B 2 1 (.slice (some ⟨wg, 0, none⟩) (q + 1) N) (q + 1) ((W.take q).map (Value.int .i64) ++ [.int .i64 x])) (hg : wr.grownBy w1 (some wg)) : Mk2 B T lst w w1 S sa scap W g wg N m (q + 1) := by
  obtain ⟨cur, hc⟩ := own_block h.wt (k := wg) rfl
  refine ⟨h.sp.other hg (fun r hr => ?_), own_keep h.cur hg (own_type h.cur h.wt (by decide)), ?_, h.ne⟩
  · cases hr
    exact ⟨(h.wt.lt wg rfl).1, cur, 2, hc, by decide, by decide, fun e => by cases e⟩
  · have hq := (List.getElem?_eq_some_iff.1 hx)
    rw [List.take_succ_eq_append_getElem hq.1, hq.2]
    simpa using ho
end

/-- With the entries besides (block E, k of them). -/
structure Mk3 (B T : Nat) (lst : Bool) (w wr : World) (S : List Nat) (sa : Option Addr) (scap : Nat) (W : List Int) (g wg N p q E n k : Nat) : Prop where
  two : Mk2 B T lst w wr S sa scap W g wg N p q
  es : wr.ownsRow B 37 4 (.slice (some ⟨E, 0, none⟩) k n) k (ecells W p k)
  ne : E ∉ g :: S
section
variable {B T : Nat} {lst : Bool} {w wr w1 : World} {S : List Nat} {sa : Option Addr} {scap g wg N p q E n k : Nat} {W : List Int}
theorem Mk3.grown (h : Mk3 B T lst w wr S sa scap W g wg N p q E n k) (hg : wr.grownBy w1 none) : Mk3 B T lst w w1 S sa scap W g wg N p q E n k :=
  ⟨h.two.grown hg, own_keep h.es hg (fun _ _ => by simp), h.ne⟩
theorem Mk3.app (h : Mk3 B T lst w wr S sa scap W g wg N p q E n k) (ho : w1.ownsRow B 37 4 (.slice (some ⟨E, 0, none⟩) (k + 1) n) (k + 1) (ecells W p k ++ entc W (p + k))) (hg : wr.grownBy w1 (some E)) : Mk3 B T lst w w1 S sa scap W g wg N p q E n (k + 1) := by
  obtain ⟨cur, hc⟩ := own_block h.es (k := E) rfl
  refine ⟨⟨h.two.sp.other hg (fun r hr => ?_), own_keep h.two.cur hg (fun k hk e => ?_), own_keep h.two.wt hg (own_type h.two.wt h.es (by decide)), h.two.ne⟩, ho, h.ne⟩
  · cases hr
    exact ⟨(h.es.lt E rfl).1, cur, 37, hc, by decide, by decide, fun _ hb => h.ne (by simp [hb])⟩
  · have e1 : g = k := by simpa [Value.ownBlock] using hk
    have e2 : k = E := by simpa using e
    exact h.ne (by rw [← e2, ← e1]; simp)
theorem Mk3.want (h : Mk3 B T lst w wr S sa scap W g wg N p q E n k) {x : Int} (hx : W[q]? = some x) (ho : w1.ownsRow B 2 1 (.slice (some ⟨wg, 0, none⟩) (q + 1) N) (q + 1) ((W.take q).map (Value.int .i64) ++ [.int .i64 x])) (hg : wr.grownBy w1 (some wg)) : Mk3 B T lst w w1 S sa scap W g wg N p (q + 1) E n k :=
  ⟨h.two.want hx ho hg, own_keep h.es hg (own_type h.es h.two.wt (by decide)), h.ne⟩
end
end Go.Proofs.Ybulkakwk
