/-
  Plain lists for replay.LawS1830BLayout: the cells of entries, of leaves, of children; sums and least weights. No walk here.
-/
import Derived.WalkKit
namespace Go.Proofs.Ybulkakwk
open Go.RowKit

/-- The cells of entry i: its key (i, 0), its value i, its weight. -/
def entc (W : List Int) (i : Nat) : List Value := [.int .i64 i, .int .i64 0, .int .i64 i, .int .i64 (W.getD i 0)]
/-- The cells of the entries a, .., a + m - 1. -/
def ecells (W : List Int) (a : Nat) : Nat → List Value
  | 0 => []
  | m + 1 => ecells W a m ++ entc W (a + m)

theorem ecells_len (W : List Int) (a : Nat) : ∀ m, (ecells W a m).length = m * 4
  | 0 => rfl
  | m + 1 => by simp [ecells, ecells_len W a m, entc]; omega

theorem ecells_add (W : List Int) (a m : Nat) : ∀ k, ecells W a (m + k) = ecells W a m ++ ecells W (a + m) k
  | 0 => by simp [ecells]
  | k + 1 => by
    show ecells W a (m + k) ++ entc W (a + (m + k)) = _
    rw [ecells_add W a m k]
    simp [ecells, Nat.add_assoc]

theorem ecells_one (W : List Int) (a m : Nat) : ∀ u ∈ ecells W a m, u.oneCell' = true := by
  induction m with
  | zero => intro u hu; simp [ecells] at hu
  | succ m ih =>
    intro u hu
    rw [ecells, List.mem_append] at hu
    rcases hu with hu | hu
    · exact ih u hu
    · simp [entc] at hu
      rcases hu with rfl | rfl | rfl | rfl <;> rfl

theorem ecells_get (W : List Int) (a m j r : Nat) (hj : j < m) (hr : r < 4) : (ecells W a m)[j * 4 + r]? = (entc W (a + j))[r]? := by
  have e : m = j + (1 + (m - j - 1)) := by omega
  rw [e, ecells_add, ecells_add, List.getElem?_append_right (by rw [ecells_len]; omega), ecells_len]
  rw [List.getElem?_append_left (by rw [ecells_len]; omega)]
  have e2 : j * 4 + r - j * 4 = r := by omega
  rw [e2]
  simp [ecells]

/-- A part of a row of entries. -/
theorem ecells_part (W : List Int) (a m s k i : Nat) (u : Value) (h : s + k ≤ m) (hu : (ecells W (a + s) k)[i]? = some u) : (ecells W a m)[s * 4 + i]? = some u := by
  have hi : i < k * 4 := by
    have := (List.getElem?_eq_some_iff.1 hu).1
    rwa [ecells_len] at this
  have e : m = s + (k + (m - s - k)) := by omega
  rw [e, ecells_add, ecells_add, List.getElem?_append_right (by rw [ecells_len]; omega), ecells_len, List.getElem?_append_left (by rw [ecells_len]; omega)]
  have e2 : s * 4 + i - s * 4 = i := by omega
  rw [e2]
  exact hu

/-- The weights a, .., a + m - 1. -/
def wsl (W : List Int) (a m : Nat) : List Int := (W.drop a).take m
theorem wsl_succ (W : List Int) (a m : Nat) (h : a + m < W.length) : wsl W a (m + 1) = wsl W a m ++ [W.getD (a + m) 0] := by
  unfold wsl
  rw [List.take_succ_eq_append_getElem (by simp; omega)]
  simp [h]

/-- The sum of weights as int64 reckons it, the first first. -/
def sumL (l : List Int) : Int := l.foldl (fun s x => wrap64 (s + x)) 0
theorem sumL_snoc (l : List Int) (x : Int) : sumL (l ++ [x]) = wrap64 (sumL l + x) := by simp [sumL, List.foldl_append]
def lowF (o : Option Int) (x : Int) : Option Int :=
  match o with
  | none => some x
  | some a => if x < a then some x else some a
/-- The least weight; 0 of none. -/
def lowL (l : List Int) : Int := (l.foldl lowF none).getD 0
theorem lowL_one (x : Int) : lowL [x] = x := rfl
theorem fold_some (l : List Int) : ∀ o : Option Int, l ≠ [] ∨ o ≠ none → ∃ a, l.foldl lowF o = some a := by
  induction l with
  | nil => intro o h; rcases h with h | h; exact absurd rfl h; cases o with | none => exact absurd rfl h | some a => exact ⟨a, rfl⟩
  | cons x l ih =>
    intro o _
    simp only [List.foldl_cons]
    refine ih _ (.inr ?_)
    cases o with
    | none => simp [lowF]
    | some a => simp only [lowF]; split <;> simp
theorem lowL_snoc (l : List Int) (x : Int) (h : l ≠ []) : lowL (l ++ [x]) = if x < lowL l then x else lowL l := by
  obtain ⟨a, ha⟩ := fold_some l none (.inl h)
  unfold lowL
  rw [List.foldl_append, ha]
  simp only [List.foldl_cons, List.foldl_nil, lowF, Option.getD_some]
  split <;> rfl

/-- The least weight, where it is kept. -/
def lowV (lst : Bool) (l : List Int) : Int := if lst then lowL l else 0
theorem lowV_true (l : List Int) : lowV true l = lowL l := rfl
theorem lowV_false (l : List Int) : lowV false l = 0 := rfl

/-- The cells of the child of leaf j, which lies in block b. -/
def chd (W : List Int) (lst : Bool) (j b : Nat) : List Value :=
  [.pointer none, .slice (some ⟨b, 0, none⟩) 32 32, .int .i64 (j * 32 : Nat), .int .i64 0, .int .i64 (sumL (wsl W (j * 32) 32)), .int .i64 (lowV lst (wsl W (j * 32) 32))]
def ccells (W : List Int) (lst : Bool) : List Nat → Nat → List Value
  | [], _ => []
  | b :: G, j => chd W lst j b ++ ccells W lst G (j + 1)

theorem ccells_snoc (W : List Int) (lst : Bool) (b : Nat) : ∀ (G : List Nat) (j : Nat), ccells W lst (G ++ [b]) j = ccells W lst G j ++ chd W lst (j + G.length) b
  | [], j => by simp [ccells]
  | c :: G, j => by
    show chd W lst j c ++ ccells W lst (G ++ [b]) (j + 1) = _
    rw [ccells_snoc W lst b G (j + 1)]
    simp [ccells, Nat.add_assoc, Nat.add_comm 1]
theorem ccells_len (W : List Int) (lst : Bool) : ∀ (G : List Nat) (j : Nat), (ccells W lst G j).length = G.length * 6
  | [], j => rfl
  | c :: G, j => by simp [ccells, chd, ccells_len W lst G (j + 1)]; omega
theorem ccells_get (W : List Int) (lst : Bool) : ∀ (G : List Nat) (s j b r : Nat), G[j]? = some b → r < 6 → (ccells W lst G s)[j * 6 + r]? = (chd W lst (s + j) b)[r]?
  | [], s, j, b, r, h, _ => by simp at h
  | c :: G, s, 0, b, r, h, hr => by
    simp at h
    subst h
    simp only [ccells, Nat.zero_mul, Nat.zero_add, Nat.add_zero]
    rw [List.getElem?_append_left (by simp [chd]; exact hr)]
  | c :: G, s, j + 1, b, r, h, hr => by
    have := ccells_get W lst G (s + 1) j b r (by simpa using h) hr
    simp only [ccells]
    rw [List.getElem?_append_right (by simp [chd]; omega)]
    have e : (j + 1) * 6 + r - (chd W lst s c).length = j * 6 + r := by simp [chd]; omega
    have e2 : s + (j + 1) = s + 1 + j := by omega
    rw [e, e2]
    exact this

end Go.Proofs.Ybulkakwk
