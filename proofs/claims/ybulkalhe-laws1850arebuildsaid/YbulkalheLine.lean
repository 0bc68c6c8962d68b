/-
  The line that layout.LawS1850ARebuild builds up again: plain lists; and the law of 'copy' into a row that the call itself made.
-/
import Derived.Test.YbulkalheFields
import Derived.Laws.CopyOwn
namespace Go.Proofs.Ybulkalhe
open Go.RowKit

/-- Is place i in one of the first k fields? -/
def cov (F : List (Nat × Nat)) (k i : Nat) : Bool := (F.take k).any fun p => decide (p.1 ≤ i) && decide (i < p.2)
/-- The line behind k fields. -/
def lineAt (R : List Int) (F : List (Nat × Nat)) (k : Nat) : List Int := (List.range R.length).map fun i => if cov F k i then ch R i else 32

theorem lineAt_len (R : List Int) (F : List (Nat × Nat)) (k : Nat) : (lineAt R F k).length = R.length := by simp [lineAt]
theorem lineAt_zero (R : List Int) (F : List (Nat × Nat)) : lineAt R F 0 = List.replicate R.length 32 := by
  unfold lineAt
  apply List.ext_getElem
  · simp
  · intro i h1 h2
    simp [cov]

theorem cov_succ {F : List (Nat × Nat)} {k a b : Nat} (h : F[k]? = some (a, b)) (i : Nat) : cov F (k + 1) i = (cov F k i || (decide (a ≤ i) && decide (i < b))) := by
  have hk : k < F.length := (List.getElem?_eq_some_iff.1 h).1
  have e : F[k] = (a, b) := (List.getElem?_eq_some_iff.1 h).2
  unfold cov
  rw [List.take_succ_eq_append_getElem hk, e, List.any_append]
  simp

theorem splice_map {α β : Type} (f : α → β) (L cs : List α) (a : Nat) : splice (L.map f) a (cs.map f) = (splice L a cs).map f := by
  simp [splice, List.map_take, List.map_drop]

theorem splice_get {α : Type} (L cs : List α) (off i : Nat) (h : off + cs.length ≤ L.length) : (splice L off cs)[i]? = if off ≤ i ∧ i < off + cs.length then cs[i - off]? else L[i]? := by
  unfold splice
  by_cases c1 : i < off
  · rw [List.getElem?_append_left (by rw [List.length_take]; omega), List.getElem?_take, if_pos c1, if_neg (by omega)]
  · rw [List.getElem?_append_right (by rw [List.length_take]; omega), List.length_take, Nat.min_eq_left (by omega)]
    by_cases c2 : i < off + cs.length
    · rw [List.getElem?_append_left (by omega), if_pos ⟨by omega, c2⟩]
    · rw [List.getElem?_append_right (by omega), if_neg (by omega), List.getElem?_drop]
      congr 1
      omega

theorem line_get (R : List Int) (F : List (Nat × Nat)) (k i : Nat) (h : i < R.length) : (lineAt R F k)[i]? = some (if cov F k i then ch R i else 32) := by
  simp [lineAt, h]

theorem line_splice (R : List Int) (F : List (Nat × Nat)) (k a b : Nat) (h : F[k]? = some (a, b)) (hab : a < b) (hb : b ≤ R.length) :
    splice (lineAt R F k) a ((R.drop a).take (b - a)) = lineAt R F (k + 1) := by
  have hl : ((R.drop a).take (b - a)).length = b - a := by simp; omega
  apply List.ext_getElem?
  intro i
  rw [splice_get _ _ _ _ (by rw [hl, lineAt_len]; omega), hl]
  by_cases hi : i < R.length
  · rw [line_get R F k i hi, line_get R F (k + 1) i hi, cov_succ h]
    by_cases c : a ≤ i ∧ i < a + (b - a)
    · rw [if_pos c, List.getElem?_take, if_pos (by omega), List.getElem?_drop]
      have c3 : decide (a ≤ i) = true := by simp; omega
      have c4 : decide (i < b) = true := by simp; omega
      have e : a + (i - a) = i := by omega
      simp [c3, c4, ch, hi, e]
    · rw [if_neg c]
      have c5 : (decide (a ≤ i) && decide (i < b)) = false := by simp; omega
      simp [c5]
  · rw [if_neg (by omega), List.getElem?_eq_none (by rw [lineAt_len]; omega), List.getElem?_eq_none (by rw [lineAt_len]; omega)]

theorem splice_take {α : Type} (L cs : List α) (off n : Nat) (h : off + cs.length ≤ n) (hn : n ≤ L.length) : (splice L off cs).take n = splice (L.take n) off cs := by
  apply List.ext_getElem?
  intro i
  rw [splice_get _ _ _ _ (by rw [List.length_take]; omega), List.getElem?_take, splice_get _ _ _ _ (by omega), List.getElem?_take]
  by_cases c : i < n
  · simp only [if_pos c]
  · rw [if_neg c, if_neg (by omega), if_neg c]

theorem line_all (R : List Int) : lineAt R (flds R) (flds R).length = R := by
  have hg := flds_good R
  apply List.ext_getElem
  · rw [lineAt_len]
  · intro i h1 h2
    have e1 : (lineAt R (flds R) (flds R).length)[i] = if cov (flds R) (flds R).length i then ch R i else 32 := by simp [lineAt]
    have e2 : ch R i = R[i] := by simp [ch, h2]
    rw [e1]
    by_cases c : cov (flds R) (flds R).length i = true
    · rw [if_pos c, e2]
    · rw [if_neg c, ← e2]
      refine (hg.spaces i (by omega) h2 fun k a b hk hin => c ?_).symm
      unfold cov
      rw [List.take_of_length_le (Nat.le_refl _)]
      exact List.any_eq_true.2 ⟨(a, b), List.mem_of_getElem? hk, by simp [hin.1, hin.2]⟩

/-- 'copy(line[off:], t)', the line a row that the call itself made. -/
theorem wpList_copy_owned {P : Program} {w : World} {ops : Array Oper} {rest : List Oper} {o : Oper} {a : Act} {Q : Exit → Act → World → Prop} (hgd : o.guard = none) (d s : Operand) (dT sT : TypeId)
    (ho : o.op = .call { callee := .builtin .copy, args := #[d, s], argTypes := #[dT, sT] }) (elem : TypeId) (hu : P.underlying dT = some (.slice elem)) (hsz : (P.info? elem).map (·.size) = some 1)
    (base g n cap off dLen dCap : Nat) (ad : Addr) (sLen sCap : Nat) (hd : a.eval d = .slice (some ⟨g, off, none⟩) dLen dCap) (hs : a.eval s = .slice (some ad) sLen sCap)
    (xs : List Value) (hown : w.ownsRow base elem 1 (.slice (some ⟨g, 0, none⟩) n cap) n xs) (cs : List Value) (hn : cs.length = Nat.min sLen dLen)
    (hsrc : ∀ j v, cs[j]? = some v → w.cell? (ad.add j) = some v) (hfit : off + cs.length ≤ n) (h1 : ∀ v ∈ cs, v.oneCell' = true)
    (h : ∀ w', w'.ownsRow base elem 1 (.slice (some ⟨g, 0, none⟩) n cap) n (splice xs off cs) → w.grownBy w' (some g) → w'.heap.size = w.heap.size → wpList P ops Q rest (a.put o.dst (goInt cs.length)) w') : wpList P ops Q (o :: rest) a w := by
  have hx := hown.1
  rcases hown.2 with ⟨h', _⟩ | ⟨g', cap', cur, h', hb, hg, hnc, hcm, hcs, htake⟩
  · simp at h'
  · simp only [Value.slice.injEq, Option.some.injEq, Addr.mk.injEq, and_true, true_and] at h'
    obtain ⟨rfl, rfl⟩ := h'
    simp only [Nat.mul_one] at hcs htake hx
    refine wpList_copy_own hgd d s dT sT ho elem hu hsz g off dLen dCap ad sLen sCap hd hs cur elem hg cs hn hsrc (by omega) h1 ?_
    refine h _ ⟨by rw [length_splice _ _ _ (by omega)]; omega, .inr ⟨g, cap, _, rfl, hb, setRow_heap w g cur _ elem (0, 0) hg, hnc, hcm, ?_, ?_⟩⟩ ⟨rfl, rfl, rfl, by simp, fun k _ hk => setRow_other w g k _ (fun e => hk (by simp [e]))⟩ (by simp)
    · have hlen : cur.toList.length = cap := by simpa using hcs
      simp
      omega
    · have hlen : cur.toList.length = cap := by simpa using hcs
      rw [← htake, Nat.mul_one]
      exact splice_take cur.toList cs off n hfit (by omega)

end Go.Proofs.Ybulkalhe
