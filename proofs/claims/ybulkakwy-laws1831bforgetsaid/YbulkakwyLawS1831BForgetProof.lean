/-
  'Rows.LawS1831BForgetSaid': for every input sip.LawS1831BForget returns true. The frame: the given shell, by the builder that hands the form's own reach on; its end by 'Below' as in the shells over slices; the walk: YbulkakwyForgetLaw.
-/
import Derived.Test.YbulkakwyRows
import Derived.WalkKit
import Derived.ProofKit
import Derived.OpenShut
import Derived.ShutString
import Derived.ChangeOld
import Derived.Below
import Derived.SizedLaws
import Derived.Test.YbulkakwyForgetLaw
namespace Go.Proofs.Ybulkakwy.lawS1831BForget
open Go.ChangeShapes Go.WideShapes Go.ChangeAt Go.RowKit
open Go.ChangeMaps (open_string shut_string)
set_option linter.unusedVariables false      -- a walk need not use every 'w<i>' (that an integer argument fits its kind)

theorem own : ownKnob Yba.prog.godebug = none := by kernel_rfl

/-! ### The keys differ -/
theorem ne_size {a : ByteArray} : (a == a ++ xx) = false := by
  rw [beq_toListBytes, ByteArray.toList_eq, ByteArray.toList_eq]
  have h : a.data.toList ≠ (a ++ xx).data.toList := fun e => by
    have := congrArg List.length e
    simp [xx] at this
  simpa using h
theorem ne_size' {a : ByteArray} : (a ++ xx == a) = false := by
  rw [beq_toListBytes, ByteArray.toList_eq, ByteArray.toList_eq]
  have h : (a ++ xx).data.toList ≠ a.data.toList := fun e => by
    have := congrArg List.length e
    simp [xx] at this
  simpa using h
theorem ne_list {a : ByteArray} : (a.toList == (a ++ xx).toList) = false := by rw [← beq_toListBytes]; exact ne_size
theorem ne_list' {a : ByteArray} : ((a ++ xx).toList == a.toList) = false := by rw [← beq_toListBytes]; exact ne_size'

theorem keysI (a : ByteArray) : Keys 9 (.string a) (.string (a ++ xx)) :=
  ⟨⟨_, Yba.underlying9⟩, check9 _, check9 _, same9 _ _ _ (by simp [beq_toListBytes]), same9 _ _ _ (by simp [beq_toListBytes]), same9 _ _ _ ne_size, same9 _ _ _ ne_size'⟩
theorem keysC (a b : ByteArray) (c : Int) : Keys 24 (.agg #[.string a, .string b, .int .u32 c]) (.agg #[.string (a ++ xx), .string b, .int .u32 c]) :=
  ⟨⟨_, Yba.underlying24⟩, check24 _ _ _, check24 _ _ _, same24 _ _ _ _ _ _ _ (by simp), same24 _ _ _ _ _ _ _ (by simp), same24 _ _ _ _ _ _ _ (by rw [ne_list]; rfl), same24 _ _ _ _ _ _ _ (by rw [ne_list']; rfl)⟩
theorem keysD (a b c : ByteArray) : Keys 71 (.agg #[.string a, .string b, .string c]) (.agg #[.string a, .string b, .string (c ++ xx)]) :=
  ⟨⟨_, Yba.underlying71⟩, check71 _ _ _, check71 _ _ _, same71 _ _ _ _ _ _ _ (by simp), same71 _ _ _ _ _ _ _ (by simp), same71 _ _ _ _ _ _ _ (by rw [ne_list]; simp), same71 _ _ _ _ _ _ _ (by rw [ne_list']; simp)⟩

/-! ### STEP 1: THE WALK (YbulkakwyForgetLaw), at the three choices that the sixth argument makes -/
theorem walk (a0 : ByteArray) (a1 : ByteArray) (a2 : ByteArray) (a3 : ByteArray) (a4 : Int) (a5 : Int) (w0 : a0.size ≤ 140737488351232) (w1 : a1.size ≤ 140737488351232) (w2 : a2.size ≤ 140737488351232) (w3 : a3.size ≤ 140737488351232) (w5 : (Lit.int .u8 a5).wf = true) (w : World) :
    Calls Yba.prog 3 #[.string a0, .string a1, .string a2, .string a3, .int .u32 a4, .int .u8 a5] w fun e w' => e = .returned (.bool true) ∧ Below w.heap.size w w' := by
  have hb := bounds_u8 w5
  exact law_walk a0 a1 a2 a3 a4 a5 w0 w1 w2 w3 (by omega) w (a5 % 3).toNat (a5 / 3 % 3).toNat (a5 / 9 % 3).toNat (by omega) (by omega) (by omega) (keysI a0) (keysC a1 a2 a4) (keysD a1 a2 a3)

/-! ### THE ROW's STEP: WRITTEN OUT: LEAVE IT -/
set_option maxRecDepth 100000 in
theorem lifted (os : Os) (started : os.Started) (H : Type) (enc : TypeId × Value → H) :
    ReturnsInHanded {} Yba.checked os 3 .any (Rows.lawS1831BForgetSpec.pre6 enc Yba.prog Yba.f3 Rows.lawS1831BForgetRow.domain false) (Rows.lawS1831BForgetSpec.post enc Yba.prog Yba.f3 false true false false) := by
  refine returnsInHanded_of_change_sized (C := Yba.checked) own started (by kernel_rfl) Yba.func3
    (ChangeSpec.witness6 (enc := enc) (C := Yba.checked) false ⟨#[], #[.string ByteArray.empty, .string ByteArray.empty, .string ByteArray.empty, .string ByteArray.empty, .int .u32 0, .int .u8 0], []⟩ 8 (by kernel_rfl) (by kernel_rfl) (by kernel_rfl) (by kernel_rfl)) ?_
  intro W base args ds gs before hval0 hW hcnd hsz0 _
  have hval : ∀ (j : Nat) t v, Yba.f3.params[j]? = some t → args[j]? = some v → Value.okWide Yba.prog W .any base t v := hval0
  have hW' := hW
  obtain ⟨p, q, hA0, hV, rfl, hfz, hnd⟩ := hW
  have hA : DataW.TrodAll enc Yba.prog W 0 (fun _ => true) true Yba.f3.params.toList args.toList ds p := hA0
  rw [Yba.params3] at hA hval
  obtain ⟨v0, vs0, d0, ds0, p0, q0, hargs, rfl, rfl, h0, r0⟩ := trodAll_cons hA
  obtain ⟨v1, vs1, d1, ds1, p1, q1, rfl, rfl, rfl, h1, r1⟩ := trodAll_cons r0
  obtain ⟨v2, vs2, d2, ds2, p2, q2, rfl, rfl, rfl, h2, r2⟩ := trodAll_cons r1
  obtain ⟨v3, vs3, d3, ds3, p3, q3, rfl, rfl, rfl, h3, r3⟩ := trodAll_cons r2
  obtain ⟨v4, vs4, d4, ds4, p4, q4, rfl, rfl, rfl, h4, r4⟩ := trodAll_cons r3
  obtain ⟨v5, vs5, d5, ds5, p5, q5, rfl, rfl, rfl, h5, r5⟩ := trodAll_cons r4
  obtain ⟨rfl, rfl, rfl⟩ := trodAll_nil r5
  obtain rfl : args = #[v0, v1, v2, v3, v4, v5] := by cases args; simp_all
  obtain ⟨rfl, rfl⟩ := trodVars_none hV
  obtain ⟨a0, rfl, rfl, rfl, w0⟩ := open_string Yba.underlying9 (hval 0 9 v0 rfl rfl) h0
  obtain ⟨a1, rfl, rfl, rfl, w1⟩ := open_string Yba.underlying9 (hval 1 9 v1 rfl rfl) h1
  obtain ⟨a2, rfl, rfl, rfl, w2⟩ := open_string Yba.underlying9 (hval 2 9 v2 rfl rfl) h2
  obtain ⟨a3, rfl, rfl, rfl, w3⟩ := open_string Yba.underlying9 (hval 3 9 v3 rfl rfl) h3
  obtain ⟨a4, rfl, rfl, rfl, w4⟩ := open_int Yba.underlying22 (hval 4 22 v4 rfl rfl) h4
  obtain ⟨a5, rfl, rfl, rfl, w5⟩ := open_int Yba.underlying5 (hval 5 5 v5 rfl rfl) h5
  clear hA0 hval0
  have hsz : (DataW.weightsEach Yba.prog [9, 9, 9, 9, 22, 5] [.lit (.string a0.data.toList), .lit (.string a1.data.toList), .lit (.string a2.data.toList), .lit (.string a3.data.toList), .lit (.int .u32 a4), .lit (.int .u8 a5)]).all (· ≤ reachBytes) = true := hsz0
  have z0 : a0.size ≤ 140737488351232 := by have := sized_string hsz (j := 0) (t := 9) rfl rfl; simpa [reachBytes] using this
  have z1 : a1.size ≤ 140737488351232 := by have := sized_string hsz (j := 1) (t := 9) rfl rfl; simpa [reachBytes] using this
  have z2 : a2.size ≤ 140737488351232 := by have := sized_string hsz (j := 2) (t := 9) rfl rfl; simpa [reachBytes] using this
  have z3 : a3.size ≤ 140737488351232 := by have := sized_string hsz (j := 3) (t := 9) rfl rfl; simpa [reachBytes] using this
  simp only [List.append_nil] at hW'
  refine (walk a0 a1 a2 a3 a4 a5 z0 z1 z2 z3 w5 W).mono fun e W' ⟨he, bel⟩ => ?_
  subst he
  exact ⟨_, rfl, _, _, _, [], _, [], hW', trodAll_mk1 (shut_bool Yba.underlying4 _), (trodAll_cons_mk (shut_string Yba.underlying9 w0) (trodAll_cons_mk (shut_string Yba.underlying9 w1) (trodAll_cons_mk (shut_string Yba.underlying9 w2) (trodAll_cons_mk (shut_string Yba.underlying9 w3) (trodAll_cons_mk (shut_int Yba.underlying22 w4) (trodAll_cons_mk (shut_int Yba.underlying5 w5) trodAll_mk0)))))), rfl, bel.frame _, fun h => by cases h⟩

theorem over : Rows.lawS1831BForgetRow.holds Yba.pinned (OpenSpec.ofChange Rows.lawS1831BForgetSpec) :=
  OpenClaim.holds_of_wide 3 Yba.f3 rfl rfl rfl rfl rfl rfl rfl ⟨rfl, rfl, rfl, rfl, rfl⟩ rfl rfl rfl rfl rfl (by kernel_rfl) Yba.func3 (by kernel_rfl)
    (of_decide_eq_true (by kernel_rfl)) (by unfold Func.isWrapper; first | (rw [if_pos (by decide +kernel)]; kernel_rfl) | (rw [if_neg (by decide +kernel)]; exact ⟨rfl, rfl⟩))
    (fun os started H enc _ => lifted os started H enc)

/-- ████ THE STATEMENT ████ -/
theorem proved : Rows.LawS1831BForgetSaid :=
  over
end Go.Proofs.Ybulkakwy.lawS1831BForget
