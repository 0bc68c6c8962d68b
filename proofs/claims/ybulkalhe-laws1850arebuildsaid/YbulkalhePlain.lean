/-
  The plain mathematics of internal/layout.Fields: no Go in sight. A line is the list R of its characters (numbers); 32 is the space.
  'st R j': what has been gathered behind j steps of the scan (the closed fields, and where the open one began).
-/
namespace Go.Proofs.Ybulkalhe

def ch (R : List Int) (j : Nat) : Int := R.getD j 0

/-- A gap: a space at an end of the line or beside another space. -/
def gapB (R : List Int) (j : Nat) : Bool :=
  ch R j == 32 && (j == 0 || ch R (j - 1) == 32 || j + 1 == R.length || ch R (j + 1) == 32)

/-- One step of the scan. -/
def stp (g : Bool) (j : Nat) (s : List (Nat × Nat) × Option Nat) : List (Nat × Nat) × Option Nat :=
  match g, s.2 with
  | true, none => (s.1, none)
  | true, some a => (s.1 ++ [(a, j)], none)
  | false, none => (s.1, some j)
  | false, some a => (s.1, some a)

def st (R : List Int) : Nat → List (Nat × Nat) × Option Nat
  | 0 => ([], none)
  | j + 1 => stp (j == R.length || gapB R j) j (st R j)

/-- The fields: (first place, the place behind the last). -/
def flds (R : List Int) : List (Nat × Nat) := (st R (R.length + 1)).1

theorem st_gap_none {R : List Int} {j : Nat} {out : List (Nat × Nat)} (h : st R j = (out, none)) (hg : (j == R.length || gapB R j) = true) : st R (j + 1) = (out, none) := by
  simp only [st, h, hg, stp]
theorem st_gap_some {R : List Int} {j a : Nat} {out : List (Nat × Nat)} (h : st R j = (out, some a)) (hg : (j == R.length || gapB R j) = true) : st R (j + 1) = (out ++ [(a, j)], none) := by
  simp only [st, h, hg, stp]
theorem st_in_none {R : List Int} {j : Nat} {out : List (Nat × Nat)} (h : st R j = (out, none)) (hg : (j == R.length || gapB R j) = false) : st R (j + 1) = (out, some j) := by
  simp only [st, h, hg, stp]
theorem st_in_some {R : List Int} {j a : Nat} {out : List (Nat × Nat)} (h : st R j = (out, some a)) (hg : (j == R.length || gapB R j) = false) : st R (j + 1) = (out, some a) := by
  simp only [st, h, hg, stp]

/-! ### Fields' own loops, told by the scan -/

/-- At the head of the outer loop. -/
def Outer (R : List Int) (i : Nat) (out : List (Nat × Nat)) : Prop :=
  i ≤ R.length + 1 ∧ st R i = (out, none) ∧ (i ≤ R.length → i = 0 ∨ ch R (i - 1) = 32)

/-- At the head of the inner loop. -/
def Inner (R : List Int) (a i : Nat) (out : List (Nat × Nat)) : Prop :=
  a ≤ i ∧ i ≤ R.length ∧ a < R.length ∧ ch R a ≠ 32 ∧
  ((i = a ∧ st R a = (out, none)) ∨ (a < i ∧ st R i = (out, some a) ∧ (ch R (i - 1) ≠ 32 ∨ (i < R.length ∧ ch R i ≠ 32))))

theorem Outer.start (R : List Int) : Outer R 0 [] := ⟨by omega, rfl, fun _ => .inl rfl⟩

theorem gapB_true {R : List Int} {j : Nat} (h : ch R j = 32) (k : j = 0 ∨ ch R (j - 1) = 32 ∨ j + 1 = R.length ∨ ch R (j + 1) = 32) : gapB R j = true := by
  unfold gapB
  simp [h]
  omega
theorem gapB_false {R : List Int} {j : Nat} (h : ch R j ≠ 32 ∨ (j ≠ 0 ∧ ch R (j - 1) ≠ 32 ∧ j + 1 ≠ R.length ∧ ch R (j + 1) ≠ 32)) : gapB R j = false := by
  unfold gapB
  rcases h with h | ⟨h1, h2, h3, h4⟩
  · simp [h]
  · simp [h1, h2, h3, h4]
theorem or_true {R : List Int} {j : Nat} (h : gapB R j = true) : (j == R.length || gapB R j) = true := by simp [h]
theorem or_end (R : List Int) : (R.length == R.length || gapB R R.length) = true := by simp
theorem or_false {R : List Int} {j : Nat} (h : gapB R j = false) (k : j < R.length) : (j == R.length || gapB R j) = false := by
  simp [h]; omega

theorem Outer.skip {R : List Int} {i : Nat} {out : List (Nat × Nat)} (h : Outer R i out) (hi : i < R.length) (hc : ch R i = 32) : Outer R (i + 1) out := by
  obtain ⟨h1, h2, h3⟩ := h
  refine ⟨by omega, st_gap_none h2 (or_true (gapB_true hc ?_)), fun _ => .inr (by simpa using hc)⟩
  rcases h3 (by omega) with h | h
  · exact .inl h
  · exact .inr (.inl h)

theorem Outer.inner {R : List Int} {i : Nat} {out : List (Nat × Nat)} (h : Outer R i out) (hi : i < R.length) (hc : ch R i ≠ 32) : Inner R i i out :=
  ⟨Nat.le_refl _, by omega, hi, hc, .inl ⟨rfl, h.2.1⟩⟩

theorem Inner.next {R : List Int} {a i : Nat} {out : List (Nat × Nat)} (h : Inner R a i out) (hi : i < R.length) (hc : ch R i ≠ 32 ∨ (i + 1 < R.length ∧ ch R (i + 1) ≠ 32)) : Inner R a (i + 1) out := by
  obtain ⟨h1, h2, h3, h4, h5⟩ := h
  refine ⟨by omega, by omega, h3, h4, .inr ⟨by omega, ?_, by simpa using hc⟩⟩
  rcases h5 with ⟨rfl, h5⟩ | ⟨h5, h6, h7⟩
  · exact st_in_none h5 (or_false (gapB_false (.inl h4)) hi)
  · refine st_in_some h6 (or_false (gapB_false ?_) hi)
    by_cases hk : ch R i = 32
    · rcases hc with hc | ⟨hc1, hc2⟩
      · exact absurd hk hc
      · refine .inr ⟨by omega, ?_, by omega, hc2⟩
        rcases h7 with h7 | ⟨_, h7⟩
        · exact h7
        · exact absurd hk h7
    · exact .inl hk

theorem Inner.leave {R : List Int} {a i : Nat} {out : List (Nat × Nat)} (h : Inner R a i out) (hc : i = R.length ∨ (ch R i = 32 ∧ (i + 1 = R.length ∨ ch R (i + 1) = 32))) : Outer R (i + 1) (out ++ [(a, i)]) := by
  obtain ⟨h1, h2, h3, h4, h5⟩ := h
  rcases h5 with ⟨rfl, h5⟩ | ⟨h5, h6, h7⟩
  · rcases hc with hc | ⟨hc, _⟩
    · omega
    · exact absurd hc h4
  · refine ⟨by omega, ?_, fun hle => .inr ?_⟩
    · refine st_gap_some h6 ?_
      rcases hc with rfl | ⟨hc, hd⟩
      · exact or_end R
      · exact or_true (gapB_true hc (.inr (.inr hd)))
    · rcases hc with rfl | ⟨hc, _⟩
      · omega
      · simpa using hc

theorem Outer.done {R : List Int} {i : Nat} {out : List (Nat × Nat)} (h : Outer R i out) (hi : R.length ≤ i) : out = flds R := by
  obtain ⟨h1, h2, _⟩ := h
  unfold flds
  by_cases e : i = R.length
  · subst e
    rw [st_gap_none h2 (or_end R)]
  · have e' : i = R.length + 1 := by omega
    rw [← e', h2]

/-! ### What the fields are good for -/

/-- Of the fields that are closed when the scan stands at 'lim'. -/
structure Good (R : List Int) (out : List (Nat × Nat)) (lim : Nat) : Prop where
  each : ∀ (k a b : Nat), out[k]? = some (a, b) → a < b ∧ b ≤ R.length ∧ b + 1 ≤ lim ∧ ch R a ≠ 32 ∧ ch R (b - 1) ≠ 32
  order : ∀ (k a b a' b' : Nat), out[k]? = some (a, b) → out[k + 1]? = some (a', b') → b + 1 ≤ a'
  spaces : ∀ (i : Nat), i < lim → i < R.length → (∀ (k a b : Nat), out[k]? = some (a, b) → ¬ (a ≤ i ∧ i < b)) → ch R i = 32

theorem getElem?_snoc {α : Type} {l : List α} {x : α} {k : Nat} {y : α} (h : (l ++ [x])[k]? = some y) : l[k]? = some y ∨ (k = l.length ∧ y = x) := by
  by_cases hk : k < l.length
  · rw [List.getElem?_append_left hk] at h
    exact .inl h
  · rw [List.getElem?_append_right (by omega)] at h
    have : k - l.length = 0 := by
      by_cases e : k - l.length = 0
      · exact e
      · rw [List.getElem?_eq_none (by simp; omega)] at h
        cases h
    rw [this] at h
    simp at h
    exact .inr ⟨by omega, h.symm⟩

def Inv (R : List Int) (j : Nat) (s : List (Nat × Nat) × Option Nat) : Prop :=
  match s.2 with
  | none => Good R s.1 j ∧ (j ≤ R.length → j = 0 ∨ ch R (j - 1) = 32)
  | some a => Good R s.1 a ∧ a < j ∧ j ≤ R.length ∧ ch R a ≠ 32 ∧ gapB R (j - 1) = false

theorem gapB_isTrue {R : List Int} {j : Nat} (h : gapB R j = true) : ch R j = 32 ∧ (j = 0 ∨ ch R (j - 1) = 32 ∨ j + 1 = R.length ∨ ch R (j + 1) = 32) := by
  unfold gapB at h
  simp at h
  exact ⟨h.1, by rcases h.2 with ((h | h) | h) | h <;> simp [h]⟩
theorem gapB_isFalse {R : List Int} {j : Nat} (h : gapB R j = false) (k : ch R j = 32) : j ≠ 0 ∧ ch R (j - 1) ≠ 32 ∧ j + 1 ≠ R.length ∧ ch R (j + 1) ≠ 32 := by
  refine ⟨fun e => ?_, fun e => ?_, fun e => ?_, fun e => ?_⟩
  · rw [gapB_true k (.inl e)] at h; cases h
  · rw [gapB_true k (.inr (.inl e))] at h; cases h
  · rw [gapB_true k (.inr (.inr (.inl e)))] at h; cases h
  · rw [gapB_true k (.inr (.inr (.inr e)))] at h; cases h

theorem Good.wider {R : List Int} {out : List (Nat × Nat)} {j : Nat} (h : Good R out j) (hc : j < R.length → ch R j = 32) : Good R out (j + 1) := by
  refine ⟨fun k a b e => ?_, h.order, fun i hi hn e => ?_⟩
  · have := h.each k a b e
    exact ⟨this.1, this.2.1, by omega, this.2.2.2⟩
  · by_cases ei : i = j
    · subst ei; exact hc hn
    · exact h.spaces i (by omega) hn e

theorem Good.close {R : List Int} {out : List (Nat × Nat)} {a j : Nat} (h : Good R out a) (haj : a < j) (hj : j ≤ R.length) (ha : ch R a ≠ 32) (hl : ch R (j - 1) ≠ 32) (hc : j < R.length → ch R j = 32) : Good R (out ++ [(a, j)]) (j + 1) := by
  refine ⟨fun k x y e => ?_, fun k x y x' y' e e' => ?_, fun i hi hn e => ?_⟩
  · rcases getElem?_snoc e with e | ⟨_, e⟩
    · have := h.each k x y e
      exact ⟨this.1, this.2.1, by omega, this.2.2.2⟩
    · cases e
      exact ⟨haj, hj, by omega, ha, hl⟩
  · rcases getElem?_snoc e' with e' | ⟨hk, e'⟩
    · rcases getElem?_snoc e with e | ⟨hk, _⟩
      · exact h.order k x y x' y' e e'
      · rw [hk, List.getElem?_eq_none (by omega)] at e'; cases e'
    · cases e'
      rcases getElem?_snoc e with e | ⟨hk', _⟩
      · exact (h.each k x y e).2.2.1
      · omega
  · by_cases ei : i = j
    · subst ei; exact hc hn
    · by_cases hia : i < a
      · exact h.spaces i hia hn fun k x y e' => e k x y (by
          rw [List.getElem?_append_left (List.getElem?_eq_some_iff.1 e').1]; exact e')
      · exact absurd ⟨by omega, by omega⟩ (e out.length a j (by simp))

theorem inv (R : List Int) : ∀ j, j ≤ R.length + 1 → Inv R j (st R j)
  | 0, _ => by
    refine ⟨⟨fun k a b e => by simp [st] at e, fun k a b a' b' e => by simp [st] at e, fun i hi => by omega⟩, fun _ => .inl rfl⟩
  | j + 1, hj => by
    have ih := inv R j (by omega)
    rcases hs : st R j with ⟨out, o⟩
    rw [hs] at ih
    cases hg : (j == R.length || gapB R j) with
    | true =>
      cases o with
      | none =>
        rw [st_gap_none hs hg]
        simp only [Inv] at ih ⊢
        obtain ⟨ih1, ih2⟩ := ih
        have hc : j < R.length → ch R j = 32 := fun h => by
          simp at hg
          rcases hg with hg | hg
          · omega
          · exact (gapB_isTrue hg).1
        exact ⟨ih1.wider hc, fun h => .inr (by simpa using hc (by omega))⟩
      | some a =>
        rw [st_gap_some hs hg]
        simp only [Inv] at ih ⊢
        obtain ⟨ih1, ih2, ih3, ih4, ih5⟩ := ih
        have hc : j < R.length → ch R j = 32 := fun h => by
          simp at hg
          rcases hg with hg | hg
          · omega
          · exact (gapB_isTrue hg).1
        have hl : ch R (j - 1) ≠ 32 := fun e => by
          have h5 := gapB_isFalse ih5 e
          have ej : j - 1 + 1 = j := by omega
          rw [ej] at h5
          exact h5.2.2.2 (hc (by omega))
        exact ⟨ih1.close ih2 ih3 ih4 hl hc, fun h => .inr (by simpa using hc (by omega))⟩
    | false =>
      have hne : j ≠ R.length ∧ gapB R j = false := by simpa using hg
      cases o with
      | none =>
        rw [st_in_none hs hg]
        simp only [Inv] at ih ⊢
        obtain ⟨ih1, ih2⟩ := ih
        refine ⟨ih1, by omega, by omega, fun e => ?_, by simpa using hne.2⟩
        have h5 := gapB_isFalse hne.2 e
        rcases ih2 (by omega) with h | h
        · exact h5.1 h
        · exact h5.2.1 h
      | some a =>
        rw [st_in_some hs hg]
        simp only [Inv] at ih ⊢
        exact ⟨ih.1, by omega, by omega, ih.2.2.2.1, by simpa using hne.2⟩

/-- Of all fields. -/
theorem flds_good (R : List Int) : Good R (flds R) (R.length + 1) := by
  have h := inv R (R.length + 1) (Nat.le_refl _)
  unfold flds
  rcases hs : st R (R.length + 1) with ⟨out, o⟩
  rw [hs] at h
  cases o with
  | none => exact h.1
  | some a => simp only [Inv] at h; omega

theorem flds_le (R : List Int) : ∀ j, (st R j).1.length ≤ j
  | 0 => by simp [st]
  | j + 1 => by
    have := flds_le R j
    rcases hs : st R j with ⟨out, o⟩
    rw [hs] at this
    simp only [st, hs]
    cases (j == R.length || gapB R j) <;> cases o <;> simp [stp] <;> simp at this <;> omega

theorem flds_length (R : List Int) : (flds R).length ≤ R.length + 1 := flds_le R _

end Go.Proofs.Ybulkalhe
