/-
  'Rows.LawS1850AModelSaid': for every input layout.LawS1850AModel returns true. The frame: the given shell, its end by 'Below' as in the shells over slices; the walk: typed here.
-/
import Derived.Test.YbulkalheRows
import Derived.WalkKit
import Derived.ProofKit
import Derived.OpenShut
import Derived.ShutString
import Derived.ChangeOld
import Derived.Below
import Derived.Deep.QuietTactic
import Derived.BigQuiet
import Derived.Test.YbulkalheModel
namespace Go.Proofs.Ybulkalhe.lawS1850AModel
open Go.ChangeShapes Go.WideShapes Go.ChangeAt Go.RowKit
open Go.ChangeMaps (open_string shut_string)
set_option linter.unusedVariables false      -- a walk need not use every 'w<i>' (that an integer argument fits its kind)

theorem own : ownKnob Yba.prog.godebug = none := by kernel_rfl

/-! ### STEP 1: THE WALK -/
set_option maxHeartbeats 1000000 in
set_option maxRecDepth 1000000 in
theorem walk (a0 : ByteArray) (w0 : a0.size ≤ maxLen) (w : World) :
    Calls Yba.prog 3 #[.string a0] w fun e w' => e = .returned (.bool true) ∧ Below w.heap.size w w' := by
  unfold maxLen at w0
  by_cases h1 : 1024 < a0.size
  · go_enter Yba.func3, Yba.ntmps3
    go_wp2
    go_ret
    exact ⟨rfl, Below.refl _ _⟩
  · have hfl := flds_length (runesL a0)
    have hrl := runesL_len a0
    go_enter Yba.func3, Yba.ntmps3
    go_wp2_with fail
    refine (fields_any a0 _ (by omega)).mono ?_
    rintro e w1 ⟨v1, rfl, hv1, hb1⟩
    go_wp2_with fail
    refine (model_any a0 _ (by omega)).mono ?_
    rintro e w2 ⟨v2, rfl, hv2, hb2⟩
    have hv1' := kept_own hv1 hb2
    have hb := hb1.trans (hb2.mono hb1.size)
    clear hv1 hb1 hb2
    generalize flds (runesL a0) = F at *
    generalize runesL a0 = R at *
    by_cases hn : 0 < F.length
    · obtain ⟨g1, c1, rfl, k1, l1, m1, n1⟩ := own_form hv1' hn
      obtain ⟨g2, c2, rfl, k2, l2, m2, n2⟩ := own_form hv2 hn
      go_wp2
      go_loopw [5] (fun i wr => ∃ k : Nat, i = .int .i64 k ∧ k ≤ F.length ∧ wr.ownsRow (w.heap.size + 1) 25 2 (.slice (some ⟨g1, 0, none⟩) F.length c1) F.length (fcells R F) ∧
         wr.ownsRow (w1.heap.size + 1) 25 2 (.slice (some ⟨g2, 0, none⟩) F.length c2) F.length (fcells R F) ∧ Below w.heap.size w wr)
        (fun i _ => F.length - (intOf i).toNat)
      case atStart => exact ⟨0, rfl, by omega, hv1', hv2, hb⟩
      case round =>
        obtain ⟨k, rfl, hk, o1, o2, hbr⟩ := hrel
        by_cases hlt : k < F.length
        · obtain ⟨x, y, hxy⟩ : ∃ x y, F[k]? = some (x, y) := ⟨F[k].1, F[k].2, by simp [hlt]⟩
          have q := fcells_at R F k x y hxy
          have p1 := o1.cellAt (k * 2) (by omega)
          have p2 := o1.cellAt (k * 2 + 1) (by omega)
          have p3 := o2.cellAt (k * 2) (by omega)
          have p4 := o2.cellAt (k * 2 + 1) (by omega)
          rw [q.1] at p1 p3
          rw [q.2] at p2 p4
          clear q hxy
          have b1 : (0 : Int) ≤ (k : Int) := by omega
          have b2 : (k : Int) < (F.length : Int) := by omega
          go_wp2
          go_quiet (fail)
          have o1' : (wr.drewN nq).ownsRow (w.heap.size + 1) 25 2 (.slice (some ⟨g1, 0, none⟩) F.length c1) F.length (fcells R F) := o1
          have o2' : (wr.drewN nq).ownsRow (w1.heap.size + 1) 25 2 (.slice (some ⟨g2, 0, none⟩) F.length c2) F.length (fcells R F) := o2
          have hbr' : Below w.heap.size w (wr.drewN nq) := ⟨hbr.os, hbr.tape, hbr.output, hbr.size, hbr.block⟩
          clear o1 o2 hbr p1 p2 p3 p4
          go_wp2
          go_roundw
          case rel => exact ⟨k + 1, by go_num, by omega, o1', o2', hbr'⟩
          case measure => simp [intOf]; omega
        · go_wp2
          go_ret
          exact ⟨rfl, hbr⟩
    · obtain ⟨p1, c1, rfl⟩ := own_form0 hv1'
      obtain ⟨p2, c2, rfl⟩ := own_form0 hv2
      have e0 : F.length = 0 := by omega
      rw [e0]
      clear hv1' hv2
      go_wp2
      refine wp_loop_rounds 1 ?_
      rw [rounds_succ]
      go_wp2
      go_ret
      exact ⟨rfl, hb⟩

/-! ### THE ROW's STEP: WRITTEN OUT: LEAVE IT -/
set_option maxRecDepth 100000 in
theorem lifted (os : Os) (started : os.Started) (H : Type) (enc : TypeId × Value → H) :
    ReturnsInHanded {} Yba.checked os 3 .any (Rows.lawS1850AModelSpec.pre6 enc Yba.prog Yba.f3 Rows.lawS1850AModelRow.domain false) (Rows.lawS1850AModelSpec.post enc Yba.prog Yba.f3 false true false false) := by
  refine returnsInHanded_of_change (C := Yba.checked) own started (by kernel_rfl) Yba.func3
    (ChangeSpec.witness6 (enc := enc) (C := Yba.checked) false ⟨#[], #[.string ByteArray.empty], []⟩ 8 (by kernel_rfl) (by kernel_rfl) (by kernel_rfl) (by kernel_rfl)) ?_
  intro W base args ds gs before hval0 hW hcnd _
  have hval : ∀ (j : Nat) t v, Yba.f3.params[j]? = some t → args[j]? = some v → Value.okWide Yba.prog W .any base t v := hval0
  have hW' := hW
  obtain ⟨p, q, hA0, hV, rfl, hfz, hnd⟩ := hW
  have hA : DataW.TrodAll enc Yba.prog W 0 (fun _ => true) true Yba.f3.params.toList args.toList ds p := hA0
  rw [Yba.params3] at hA hval
  obtain ⟨v0, vs0, d0, ds0, p0, q0, hargs, rfl, rfl, h0, r0⟩ := trodAll_cons hA
  obtain ⟨rfl, rfl, rfl⟩ := trodAll_nil r0
  obtain rfl : args = #[v0] := by cases args; simp_all
  obtain ⟨rfl, rfl⟩ := trodVars_none hV
  obtain ⟨a0, rfl, rfl, rfl, w0⟩ := open_string Yba.underlying9 (hval 0 9 v0 rfl rfl) h0
  clear hA0 hval0
  simp only [List.append_nil] at hW'
  refine (walk a0 w0 W).mono fun e W' ⟨he, bel⟩ => ?_
  subst he
  exact ⟨_, rfl, _, _, _, [], _, [], hW', trodAll_mk1 (shut_bool Yba.underlying4 _), (trodAll_cons_mk (shut_string Yba.underlying9 w0) trodAll_mk0), rfl, bel.frame _, fun h => by cases h⟩

theorem over : Rows.lawS1850AModelRow.holds Yba.pinned (OpenSpec.ofChange Rows.lawS1850AModelSpec) :=
  OpenClaim.holds_of_wide 3 Yba.f3 rfl rfl rfl rfl rfl rfl rfl ⟨rfl, rfl, rfl, rfl, rfl⟩ rfl rfl rfl rfl rfl (by kernel_rfl) Yba.func3 (by kernel_rfl)
    (of_decide_eq_true (by kernel_rfl)) (by unfold Func.isWrapper; first | (rw [if_pos (by decide +kernel)]; kernel_rfl) | (rw [if_neg (by decide +kernel)]; exact ⟨rfl, rfl⟩))
    (fun os started H enc _ => lifted os started H enc)

/-- ████ THE STATEMENT ████ -/
theorem proved : Rows.LawS1850AModelSaid :=
  over
end Go.Proofs.Ybulkalhe.lawS1850AModel
