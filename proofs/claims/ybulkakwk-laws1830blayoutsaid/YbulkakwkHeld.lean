/-
  What the walks of (*tree[int]).lay and of the law hold of memory: the tree's cells, its spare leaves, the leaves that are full, the entries, the weights, the children; and what each step does to it.
-/
import Derived.Test.YbulkakwkLeaf
import Derived.Deep.RegionLaw
namespace Go.Proofs.Ybulkakwk
open Go.RowKit
set_option linter.unusedVariables false

def treec (lst : Bool) (sp : Value) : Array Value :=
  #[.int .i64 0, .pointer none, .slice none 0 0, .int .i64 0, .int .i64 0, .int .i64 0, .int .i64 0, .int .i64 0, .bool lst, .slice none 0 0, .slice none 0 0, sp, .slice none 0 0, .pointer none, .int .i64 0, .int .i64 0, .slice none 0 0]
/-- An empty leaf. -/
def leafV (b : Nat) : Value := .slice (some ⟨b, 0, none⟩) 0 32

section
variable {w w' : World} {base e size n : Nat} {v : Value} {xs : List Value} {row : Option Nat}
theorem own_keep (h : w.ownsRow base e size v n xs) (hg : w.grownBy w' row) (hne : ∀ k, v.ownBlock = some k → some k ≠ row) : w'.ownsRow base e size v n xs := by
  refine h.kept hg ?_
  cases hv : v.ownBlock with
  | none => exact .inl rfl
  | some k => exact .inr (hne k hv)
theorem own_block (h : w.ownsRow base e size v n xs) {k : Nat} (hk : v.ownBlock = some k) : ∃ cur, w.heap[k]? = some (.cells cur e (0, 0)) := by
  rcases h.2 with ⟨h1, _⟩ | ⟨g, cap, cur, hv, _, hh, _⟩
  · rw [h1] at hk; cases hk
  · rw [hv] at hk; cases hk; exact ⟨cur, hh⟩
theorem own_type {e' size' n' : Nat} {v' : Value} {xs' : List Value} {base' : Nat} (h : w.ownsRow base e size v n xs) (h' : w.ownsRow base' e' size' v' n' xs') (hne : e ≠ e') : ∀ k, v.ownBlock = some k → some k ≠ v'.ownBlock := by
  intro k hk hk'
  obtain ⟨c1, e1⟩ := own_block h hk
  obtain ⟨c2, e2⟩ := own_block h' hk'.symm
  rw [e1] at e2
  simp at e2
  exact hne e2.2
end

/-- The constants: the heap's size at the start; the tree's block; the weights; whether the least is kept; what 'out' held; how many children that was; how many entries the leaf held; how many there are besides; their block; the slice 'want'. -/
structure Cst where
  B : Nat
  T : Nat
  W : List Int
  lst : Bool
  pre : List Value
  b0 : Nat
  p : Nat
  n : Nat
  E : Nat
  wg : Nat
  wc : Nat

structure Base (c : Cst) (wr : World) (G S : List Nat) (sa : Option Addr) (scap : Nat) (vout : Value) : Prop where
  tb : wr.heap[c.T]? = some (.cells (treec c.lst (.slice sa S.length scap)) 35 (0, 0))
  sp : wr.ownsRow c.B 24 1 (.slice sa S.length scap) S.length (S.map leafV)
  sl : ∀ b ∈ S, wr.ownsRow c.B 37 4 (leafV b) 0 []
  dn : ∀ (j b : Nat), G[j]? = some b → wr.ownsRow c.B 37 4 (.slice (some ⟨b, 0, none⟩) 32 32) 32 (ecells c.W (j * 32) 32)
  es : wr.ownsRow c.B 37 4 (.slice (some ⟨c.E, 0, none⟩) c.n c.n) c.n (ecells c.W c.p c.n)
  wt : wr.ownsRow c.B 2 1 (.slice (some ⟨c.wg, 0, none⟩) c.W.length c.wc) c.W.length (c.W.map (Value.int .i64))
  ot : wr.ownsRow c.B 28 6 vout (c.b0 + G.length) (c.pre ++ ccells c.W c.lst G 0)
  nd : (c.E :: (G ++ S)).Nodup
  lo : c.B ≤ c.T
  sz : c.B ≤ wr.heap.size

section
variable {c : Cst} {wr w1 : World} {G S : List Nat} {sa : Option Addr} {scap : Nat} {vout : Value}

theorem Base.tlt (h : Base c wr G S sa scap vout) : c.T < wr.heap.size := (Array.getElem?_eq_some_iff.1 h.tb).1

/-- Whatever turns no block that is there. -/
theorem Base.grown (h : Base c wr G S sa scap vout) (hg : wr.grownBy w1 none) : Base c w1 G S sa scap vout := by
  have k : ∀ {base e size : Nat} {v : Value} {n : Nat} {xs : List Value}, wr.ownsRow base e size v n xs → w1.ownsRow base e size v n xs := fun h => own_keep h hg (fun _ _ => by simp)
  exact ⟨by rw [hg.block _ h.tlt (by simp)]; exact h.tb, k h.sp, fun b hb => k (h.sl b hb), fun j b hb => k (h.dn j b hb), k h.es, k h.wt, k h.ot, h.nd, h.lo, Nat.le_trans h.sz hg.size⟩

/-- Writes into a row of entries that is none of these. -/
theorem Base.beside (h : Base c wr G S sa scap vout) {g m cap : Nat} {xs : List Value} (hc : wr.ownsRow c.B 37 4 (.slice (some ⟨g, 0, none⟩) m cap) m xs) (hne : g ∉ c.E :: (G ++ S)) (hg : wr.grownBy w1 (some g)) : Base c w1 G S sa scap vout := by
  have t : ∀ {base e size : Nat} {v : Value} {n : Nat} {xs : List Value}, e ≠ 37 → wr.ownsRow base e size v n xs → w1.ownsRow base e size v n xs := fun he h => own_keep h hg (own_type h hc he)
  have k : ∀ {b : Nat} {m cap : Nat} {xs : List Value}, b ∈ c.E :: (G ++ S) → wr.ownsRow c.B 37 4 (.slice (some ⟨b, 0, none⟩) m cap) m xs → w1.ownsRow c.B 37 4 (.slice (some ⟨b, 0, none⟩) m cap) m xs := fun {b m cap xs} hb h =>
    own_keep h hg (fun k hk e => by
      have e1 : b = k := by simpa [Value.ownBlock] using hk
      have e2 : k = g := by simpa using e
      exact hne (by rw [← e2, ← e1]; exact hb))
  refine ⟨?_, t (by decide) h.sp, fun b hb => k (by simp [hb]) (h.sl b hb), fun j b hb => k (by simp [List.mem_of_getElem? hb]) (h.dn j b hb), k (by simp) h.es, t (by decide) h.wt, t (by decide) h.ot, h.nd, h.lo, Nat.le_trans h.sz hg.size⟩
  obtain ⟨cur, hcur⟩ := own_block hc rfl
  rw [hg.block _ h.tlt (fun e => by
    have e' : c.T = g := by simpa using e
    have h1 := h.tb
    rw [e', hcur] at h1
    simp at h1)]
  exact h.tb

/-- The tree's slice of spare leaves turned. -/
theorem Base.spare (h : Base c wr G S sa scap vout) {S' : List Nat} {sa' : Option Addr} {scap' : Nat}
    (hs : (wr.setCell ⟨c.T, 11, none⟩ (.slice sa' S'.length scap')).ownsRow c.B 24 1 (.slice sa' S'.length scap') S'.length (S'.map leafV)) (hsl : ∀ b ∈ S', wr.ownsRow c.B 37 4 (leafV b) 0 []) (hnd : (c.E :: (G ++ S')).Nodup) :
    Base c (wr.setCell ⟨c.T, 11, none⟩ (.slice sa' S'.length scap')) G S' sa' scap' vout := by
  have hg : wr.grownBy (wr.setCell ⟨c.T, 11, none⟩ (.slice sa' S'.length scap')) (some c.T) := ⟨rfl, rfl, rfl, by simp, fun k _ hk => heap_setCell_other wr ⟨c.T, 11, none⟩ k _ (fun e => hk (by simp [e]))⟩
  have t : ∀ {base e size : Nat} {v : Value} {n : Nat} {xs : List Value}, e ≠ 35 → wr.ownsRow base e size v n xs → (wr.setCell ⟨c.T, 11, none⟩ (.slice sa' S'.length scap')).ownsRow base e size v n xs := fun he h' => own_keep h' hg (fun k hk e => by
    obtain ⟨cur, hcur⟩ := own_block h' hk
    have e' : k = c.T := by simpa using e
    have h1 := h.tb
    rw [← e', hcur] at h1
    simp at h1
    exact he h1.2)
  exact ⟨heap_setCell_same wr c.T 11 _ 35 _ h.tb, hs, fun b hb => t (by decide) (hsl b hb), fun j b hb => t (by decide) (h.dn j b hb), t (by decide) h.es, t (by decide) h.wt, t (by decide) h.ot, hnd, h.lo, by simpa using h.sz⟩

/-- A full leaf is handed out. -/
theorem Base.push (h : Base c wr G S sa scap vout) {g : Nat} {v' : Value} (hf : wr.ownsRow c.B 37 4 (.slice (some ⟨g, 0, none⟩) 32 32) 32 (ecells c.W (G.length * 32) 32)) (hne : g ∉ c.E :: (G ++ S))
    (ho : w1.ownsRow c.B 28 6 v' (c.b0 + G.length + 1) (c.pre ++ ccells c.W c.lst G 0 ++ chd c.W c.lst G.length g)) (hg : wr.grownBy w1 vout.ownBlock) : Base c w1 (G ++ [g]) S sa scap v' := by
  have t : ∀ {base e size : Nat} {v : Value} {n : Nat} {xs : List Value}, e ≠ 28 → wr.ownsRow base e size v n xs → w1.ownsRow base e size v n xs := fun he h' => own_keep h' hg (own_type h' h.ot he)
  refine ⟨?_, t (by decide) h.sp, fun b hb => t (by decide) (h.sl b hb), fun j b hb => ?_, t (by decide) h.es, t (by decide) h.wt, ?_, ?_, h.lo, Nat.le_trans h.sz hg.size⟩
  · rw [hg.block _ h.tlt (fun e => by
      obtain ⟨cur, hcur⟩ := own_block h.ot e.symm
      have h1 := h.tb
      rw [hcur] at h1
      simp at h1)]
    exact h.tb
  · by_cases hj : j < G.length
    · rw [List.getElem?_append_left hj] at hb
      exact t (by decide) (h.dn j b hb)
    · have hj' : j = G.length := by
        have := (List.getElem?_eq_some_iff.1 hb).1
        simp at this
        omega
      subst hj'
      simp at hb
      subst hb
      exact t (by decide) hf
  · rw [ccells_snoc]
    have e : c.b0 + (G ++ [g]).length = c.b0 + G.length + 1 := by simp; omega
    rw [e]
    simpa [List.append_assoc] using ho
  · have e : c.E :: (G ++ [g] ++ S) = (c.E :: G) ++ g :: S := by simp
    rw [e, (List.perm_middle (a := g) (l₁ := c.E :: G) (l₂ := S)).nodup_iff]
    exact List.nodup_cons.2 ⟨hne, h.nd⟩
end

/-- The leaf that is being filled. -/
structure Cur (c : Cst) (wr : World) (G S : List Nat) (g m : Nat) : Prop where
  row : wr.ownsRow c.B 37 4 (.slice (some ⟨g, 0, none⟩) m 32) m (ecells c.W (G.length * 32) m)
  ne : g ∉ c.E :: (G ++ S)
  le : m ≤ 32

end Go.Proofs.Ybulkakwk
